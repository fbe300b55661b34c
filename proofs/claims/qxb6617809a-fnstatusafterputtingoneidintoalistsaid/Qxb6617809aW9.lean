import Derived.Test.Qxb6617809aW8
import Derived.Deep.RegionWith
import Derived.BigRegion
namespace Go.Proofs.Qxb6617809a
open Go.RowKit

theorem elem22 : Try.prog.underlying 22 = some (.slice (Try.prog.elem 22)) := by kernel_rfl
theorem run_size9 (w : World) : (sizeOf (Try.prog.elem 22)).run Try.prog w = .ok 1 w := by kernel_rfl

theorem Strs.draws {w : World} {a : Option Addr} {b off n : Nat} {S : Nat → ByteArray} (h : Strs w a b off n S) (q : Nat) : Strs (w.drewN q) a b off n S := ⟨h.addr, h.cell, h.size, h.lt⟩

theorem byteSorted13b (a : Option Addr) (b off n cap : Nat) (S : Nat → ByteArray) (w : World) (hn : n ≤ 4294967296) (hs : Strs w a b off n S) :
    Calls Try.prog 13 #[.slice a n cap] w fun e w' => SortedEnd S n e ∧ Below w.heap.size w w' :=
  (byteSorted13 a b off n cap S w hn hs).mono fun _ _ ⟨h, _, hw⟩ => ⟨h, by rw [hw]; exact below_drewN (Below.refl _ _) _⟩

/-- 's[:k]' -/
theorem cut_head (a : Option Addr) (b off n cap k : Nat) (S : Nat → ByteArray) (hk : k ≤ n) (hn : n ≤ cap) :
    ∃ a', (∀ w, (Instr.sliceAt 22 (.slice a n cap) none (some (.int .i64 k)) none).run Try.prog w = .ok (.slice a' k cap) w) ∧ ∀ w, Strs w a b off n S → Strs w a' b off k S := by
  refine ⟨if cap = 0 then a else a.map (·.add (0 * 1)), fun w => ?_, fun w h => ?_⟩
  · rw [run_sliceAt_slice w 22 _ _ _ _ elem22, run_slice_h w 22 a n cap elem22 .i64 k (by omega) (by omega), run_size9]
    simp [Result.andThen, sliced]
  · refine ⟨fun h0 => ?_, fun j hj => h.cell j (by omega), fun j hj => h.size j (by omega), fun h0 => h.lt (by omega)⟩
    rw [if_neg (by omega), h.addr (by omega)]
    rfl

/-- 's[k:]' -/
theorem cut_tail (a : Option Addr) (b off n cap k : Nat) (S : Nat → ByteArray) (hk : k ≤ n) (hn : n ≤ cap) :
    ∃ a', (∀ w, (Instr.sliceAt 22 (.slice a n cap) (some (.int .i64 k)) none none).run Try.prog w = .ok (.slice a' (n - k) (cap - k)) w) ∧ ∀ w, Strs w a b off n S → Strs w a' b (off + k) (n - k) (fun j => S (k + j)) := by
  refine ⟨if cap = k then a else a.map (·.add (k * 1)), fun w => ?_, fun w h => ?_⟩
  · rw [run_sliceAt_slice w 22 _ _ _ _ elem22, run_slice_l w 22 a n cap elem22 .i64 k (by omega) (by omega), run_size9]
    simp [Result.andThen, sliced]
  · refine ⟨fun h0 => ?_, fun j hj => ?_, fun j hj => h.size (k + j) (by omega), fun h0 => h.lt (by omega)⟩
    · rw [if_neg (by omega), h.addr (by omega)]
      show some ((⟨b, off, none⟩ : Addr).add (k * 1)) = _
      rw [Nat.mul_one]
      unfold Addr.add
      split
      · simp_all
      · rfl
    · rw [Nat.add_assoc]; exact h.cell (k + j) (by omega)

set_option maxHeartbeats 1000000 in
theorem bytes12 (aD aC : Option Addr) (bD offD nD capD bC offC nC capC : Nat) (D C : Nat → ByteArray) (k m : Int) (id : ByteArray) (w : World) (hnD : nD ≤ maxLen) (hnC : nC ≤ maxLen) (hid : id.size ≤ maxLen)
    (hD : Strs w aD bD offD nD D) (hC : Strs w aC bC offC nC C) :
    Calls Try.prog 12 #[.slice aD nD capD, .slice aC nC capC, .int .i64 k, .int .i64 m, .string id] w fun e w' => SomeBool e ∧ w = w' := by
  unfold maxLen at hnD hnC hid
  by_cases h20 : 1048576 < nD
  · go_enter Try.func12, Try.ntmps12
    go_wp2
    go_ret
    exact ⟨SomeBool.mk _, rfl⟩
  have hd1 : decide ((1048576 : Int) < (nD : Int)) = false := by simp; omega
  go_enter Try.func12, Try.ntmps12
  go_wp2
  go_loop [11, 12] (fun z i => ∃ (t : Int) (q : Nat), q ≤ nD ∧ 0 ≤ t ∧ t ≤ 1048576 ∧ z = .int .i64 t ∧ i = .int .i64 q) (fun _ i => nD - (intOf i).toNat)
  case atStart => exact ⟨_, 0, Nat.zero_le _, by omega, by omega, rfl, rfl⟩
  case round =>
    obtain ⟨t, q, hq, ht0, ht, rfl, rfl⟩ := hrel
    by_cases hlt : q < nD
    · have hcx := hD.cell q hlt
      have hsx := hD.size q hlt
      unfold maxLen at hsx
      obtain rfl := hD.addr (by omega)
      go_wp2
      · go_ret
        exact ⟨SomeBool.mk _, rfl⟩
      · go_ret
        exact ⟨SomeBool.mk _, rfl⟩
      · go_round
        case rel => exact ⟨_, q + 1, by omega, by omega, by omega, rfl, by go_num⟩
        case measure => simp [intOf]; omega
    · by_cases h21 : 1048576 < nC
      · go_wp2
        go_ret
        exact ⟨SomeBool.mk _, rfl⟩
      have hd2 : decide ((1048576 : Int) < (nC : Int)) = false := by simp; omega
      by_cases h22 : 1048576 < t + nC
      · go_wp2
        go_ret
        exact ⟨SomeBool.mk _, rfl⟩
      have hd3 : decide ((1048576 : Int) < t + (nC : Int)) = false := by simp; omega
      go_wp2
      go_loop [11, 13] (fun z i => ∃ (t : Int) (q : Nat), q ≤ nC ∧ 0 ≤ t ∧ t ≤ 1048576 ∧ z = .int .i64 t ∧ i = .int .i64 q) (fun _ i => nC - (intOf i).toNat)
      case atStart => exact ⟨_, 0, Nat.zero_le _, by omega, by omega, rfl, rfl⟩
      case round =>
        obtain ⟨t2, q2, hq2, ht02, ht2, rfl, rfl⟩ := hrel
        by_cases hlt2 : q2 < nC
        · have hcx := hC.cell q2 hlt2
          have hsx := hC.size q2 hlt2
          unfold maxLen at hsx
          obtain rfl := hC.addr (by omega)
          go_wp2
          · go_ret
            exact ⟨SomeBool.mk _, rfl⟩
          · go_ret
            exact ⟨SomeBool.mk _, rfl⟩
          · go_round
            case rel => exact ⟨_, q2 + 1, by omega, by omega, by omega, rfl, by go_num⟩
            case measure => simp [intOf]; omega
        · go_wp2
          all_goals
            go_ret
            exact ⟨SomeBool.mk _, rfl⟩

/-! ### A region that draws its order and whose operations and callees leave old memory alone: one walk of the text's order serves every order (the kit's 'wp_region_quiet' at the class 'some later world'). -/
structure Later (w : World) where
  world : World
  bel : Below w.heap.size w world

theorem wp_region_later {P : Program} {id : Nat} {Q : Exit → Act → World → Prop} {a : Act} {w : World} {l : List Oper} (hm : P.follows .mixedOrders = true) (hB : Region.lexB .any l.toArray = true)
    (h : wpQuiet P l.toArray (fun w' => ∃ i : Later w, w' = i.world) (fun a' => ∀ w', (∃ i : Later w, w' = i.world) → Q .normal a' w') l a) : (Code.region id l.toArray true).wp P Q a w :=
  wp_region_quiet (C := fun w' => ∃ i : Later w, w' = i.world) hm hB ⟨⟨{ w with drawn := w.drawn + 1 }, ⟨rfl, rfl, rfl, Nat.le_refl _, fun _ _ => rfl⟩⟩, rfl⟩ (by simpa using h)

theorem Calls.later {P : Program} {f : FuncId} {args : Array Value} {w : World} {i : Later w} {v : Value}
    (h : Calls P f args i.world fun e w' => e = .returned v ∧ Below w.heap.size w w') : Calls P f args i.world fun e w'' => e = .returned v ∧ ∃ j : Later w, w'' = j.world :=
  h.mono fun _ w' ⟨he, hb⟩ => ⟨he, ⟨w', hb⟩, rfl⟩
end Go.Proofs.Qxb6617809a
