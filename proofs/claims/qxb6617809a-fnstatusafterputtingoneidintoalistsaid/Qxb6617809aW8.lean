import Derived.Test.Qxb6617809aW7
namespace Go.Proofs.Qxb6617809a
open Go.RowKit

/-- what Status answers -/
def statusOf (inC inD : Bool) : Int := if inC then 2 else if inD then 1 else 0

set_option maxHeartbeats 1000000 in
theorem status14 (aD aC : Option Addr) (bD offD nD capD bC offC nC capC : Nat) (D C : Nat → ByteArray) (vic : Value) (id : ByteArray) (w : World)
    (hnD : nD ≤ 4294967296) (hnC : nC ≤ 4294967296) (hD : Strs w aD bD offD nD D) (hC : Strs w aC bC offC nC C) (sD : SortedS D nD) (sC : SortedS C nC) :
    Calls Try.prog 14 #[.agg #[.slice aD nD capD, .slice aC nC capC, vic], .string id] w fun e w' => e = .returned (.int .u8 (statusOf (inB C nC id) (inB D nD id))) ∧ Below w.heap.size w w' := by
  go_enter Try.func14, Try.ntmps14
  go_wp2_with fail
  refine (search21 aC bC offC nC capC C id _ hnC (hC.alloc _) sC).mono ?_
  rintro e w' ⟨⟨k, rfl⟩, rfl⟩
  have hbel : Below w.heap.size w (w.alloc (.cells #[.slice aD nD capD, .slice aC nC capC, vic] 30)) := (Below.refl _ _).alloc (Nat.le_refl _) _
  cases h1 : inB C nC id
  · go_wp2_with fail
    refine (search21 aD bD offD nD capD D id _ hnD (hD.alloc _) sD).mono ?_
    rintro e w' ⟨⟨k2, rfl⟩, rfl⟩
    cases h2 : inB D nD id
    · go_wp2
      go_ret
      exact ⟨by rw [h1, h2]; rfl, hbel⟩
    · go_wp2
      go_ret
      exact ⟨by rw [h1, h2]; rfl, hbel⟩
  · go_wp2
    go_ret
    exact ⟨by rw [h1]; rfl, hbel⟩

/-! ### containsID, greaterStatus -/
set_option maxHeartbeats 400000 in
theorem containsID15 (a : Option Addr) (b off n cap : Nat) (S : Nat → ByteArray) (x : ByteArray) (w : World) (hn : n ≤ maxLen) (hs : Strs w a b off n S) :
    Calls Try.prog 15 #[.slice a n cap, .string x] w fun e w' => e = .returned (.bool (inB S n x)) ∧ w = w' := by
  unfold maxLen at hn
  go_enter Try.func15, Try.ntmps15
  go_wp2
  go_loop [9] (fun i => ∃ (k : Nat), k ≤ n ∧ Hid (∀ j, j < k → S j ≠ x) ∧ i = .int .i64 k) (fun i => n - (intOf i).toNat)
  case atStart => exact ⟨0, Nat.zero_le _, fun j hj => absurd hj (by omega), rfl⟩
  case round =>
    obtain ⟨k, hk, hno, rfl⟩ := hrel
    by_cases hlt : k < n
    · have hcx := hs.cell k hlt
      obtain rfl := hs.addr (by omega)
      by_cases heq : S k = x
      · have hb : ((S k).toList == x.toList) = true := by rw [heq]; simp
        have HT : Hid (inB S n x = true) := (inB_iff _ _ _).2 ⟨k, hlt, heq⟩
        clear heq
        go_wp2
        go_ret
        exact ⟨by rw [HT.out]; rfl, rfl⟩
      · have hb : ((S k).toList == x.toList) = false := (Lib.bytes_beq_false_iff _ _).2 heq
        have HE : Hid (S k ≠ x) := heq
        clear heq
        go_wp2
        go_round
        case rel =>
          refine ⟨k + 1, by omega, fun j hj => ?_, by go_num⟩
          rcases Nat.lt_or_ge j k with h | h
          · exact hno.out j h
          · obtain rfl : j = k := by omega
            exact HE.out
        case measure => simp [intOf]; omega
    · obtain rfl : k = n := by omega
      have HT : Hid (inB S k x = false) := (inB_false _ _ _).2 hno.out
      go_wp2
      go_ret
      exact ⟨by rw [HT.out]; rfl, rfl⟩

theorem greater16 (x y : Int) (w : World) : Calls Try.prog 16 #[.int .u8 x, .int .u8 y] w fun e w' => e = .returned (.int .u8 (if y < x then x else y)) ∧ w = w' := by
  by_cases h : y < x
  · rw [if_pos h]
    go_enter Try.func16, Try.ntmps16
    go_wp2
    go_ret
    exact ⟨rfl, rfl⟩
  · rw [if_neg h]
    go_enter Try.func16, Try.ntmps16
    go_wp2
    go_ret
    exact ⟨rfl, rfl⟩

/-! ### byteSorted -/
def SortedEnd (S : Nat → ByteArray) (n : Nat) (e : Ending) : Prop := ∃ r, e = .returned (.bool r) ∧ (r = true → SortedS S n)

theorem sorted_of_next {S : Nat → ByteArray} {n : Nat} (h : ∀ j, j + 1 < n → ¬ sLt (S (j + 1)) (S j)) : SortedS S n := by
  have key : ∀ d i, i + d + 1 < n → ¬ sLt (S (i + d + 1)) (S i) := by
    intro d
    induction d with
    | zero => intro i hi; exact h i hi
    | succ d ih =>
      intro i hi hlt
      have h1 := ih i (by omega)
      have h2 := h (i + d + 1) (by omega)
      by_cases e : S (i + d + 1) = S i
      · rw [show i + (d + 1) + 1 = i + d + 1 + 1 by omega, ← e] at hlt; exact h2 hlt
      · rcases sLt_total _ _ e with h3 | h3
        · exact h1 h3
        · exact h2 (sLt_trans _ _ _ hlt h3)
  intro i j hij hj
  have := key (j - i - 1) i (by omega)
  rwa [show i + (j - i - 1) + 1 = j by omega] at this

set_option maxHeartbeats 400000 in
theorem byteSorted13 (a : Option Addr) (b off n cap : Nat) (S : Nat → ByteArray) (w : World) (hn : n ≤ 4294967296) (hs : Strs w a b off n S) :
    Calls Try.prog 13 #[.slice a n cap] w fun e w' => SortedEnd S n e ∧ ∃ q, w' = w.drewN q := by
  go_enter Try.func13, Try.ntmps13
  go_wp2
  go_loopw [3] (fun z wr => ∃ k q : Nat, (k + 1 ≤ n ∨ k = 0) ∧ Hid (∀ j, j + 1 < k + 1 → ¬ sLt (S (j + 1)) (S j)) ∧ wr = w.drewN q ∧ z = .int .i64 ((k : Int) + 1)) (fun z _ => n - (intOf z).toNat)
  case atStart => exact ⟨0, 0, by omega, fun j hj => absurd hj (by omega), rfl, by go_num⟩
  case round =>
    obtain ⟨k, q, hk, hno, rfl, rfl⟩ := hrel
    by_cases hlt : k + 1 < n
    · have c1 := hs.cell (k + 1) hlt
      have c2 := hs.cell k (by omega)
      obtain rfl := hs.addr (by omega)
      cases hx : Op.bytesLess (S (k + 1)).toList (S k).toList
      · have HX : Hid (¬ sLt (S (k + 1)) (S k)) := sLt_false.1 hx
        go_wp2
        go_quiet (fail)
        go_wp2
        go_roundw
        case rel =>
          refine ⟨k + 1, _, by omega, fun j hj => ?_, by first | rfl | rw [World.drewN_drewN], by go_num⟩
          by_cases e : j = k
          · subst e; exact HX.out
          · exact hno.out j (by omega)
        case measure => simp [intOf]; omega
      · go_wp2
        go_quiet (fail)
        go_wp2
        go_ret
        exact ⟨⟨_, rfl, fun h => by cases h⟩, _, by first | rfl | rw [World.drewN_drewN]⟩
    · have HS : Hid (SortedS S n) := sorted_of_next (fun j hj => hno.out j (by omega))
      go_wp2
      go_ret
      exact ⟨⟨_, rfl, fun _ => HS.out⟩, _, rfl⟩
end Go.Proofs.Qxb6617809a
