import Derived.Test.Qxb6616595aRows
import Derived.Test.Qxb6616595aKit
import Derived.Deep.QuietTactic
import Derived.BigQuiet
import Derived.Lib.EndianBits
namespace Go.Proofs.Qxb6616595a
open Go.RowKit

theorem info5 : (Try.prog.info? 5).map (fun i => (i.zero, i.size, i.bytes)) = some (some (.int .u8 0), 1, 1) := by kernel_rfl

/-! ### zzBytes: some bool; under the bound -/
theorem bytes5 (a : Option Addr) (n cap : Nat) (x y : Int) (w : World) (hn : n ≤ maxLen) :
    Calls Try.prog 5 #[.slice a n cap, .int .i64 x, .int .i64 y] w fun e w' => SomeBool e ∧ w = w' := by
  unfold maxLen at hn
  by_cases h : 1048576 < n
  · go_enter Try.func5, Try.ntmps5
    go_wp2
    go_ret
    exact ⟨SomeBool.mk _, rfl⟩
  · go_enter Try.func5, Try.ntmps5
    go_wp2
    go_ret
    exact ⟨SomeBool.mk _, rfl⟩

/-! ### zzClone -/
def CloneAt (f : Nat → Int) (k : Nat) : Nat → Value := fun j => if j < k then .int .u8 (f j) else .int .u8 0
theorem CloneAt.step (f : Nat → Int) (k j : Nat) : CloneAt f (k + 1) j = upd (CloneAt f k) k (.int .u8 (f k)) j := by
  unfold CloneAt upd
  by_cases h : j = k
  · subst h; simp
  · by_cases h2 : j < k
    · simp [h, h2, show j < k + 1 by omega]
    · simp [h, h2, show ¬ j < k + 1 by omega]

def listOf (f : Nat → Int) (n : Nat) : List Int := (List.range n).map f
theorem listOf_length (f : Nat → Int) (n : Nat) : (listOf f n).length = n := by simp [listOf]
theorem listOf_getD (f : Nat → Int) {n j : Nat} (h : j < n) : (listOf f n).getD j 0 = f j := by simp [listOf, h]
theorem listOf_self (L : List Int) : listOf (fun j => L.getD j 0) L.length = L := by
  apply List.ext_getElem?
  intro j
  by_cases h : j < L.length
  · simp [listOf, h]
  · simp [listOf, h]

theorem Row.ownsBytes {w : World} {g n : Nat} {f : Nat → Int} (h : Row w g 5 n (CloneAt f n)) {B : Nat} (hB : B ≤ g) (hn : n ≤ maxLen) : Owns w B (.slice (some ⟨g, 0, none⟩) n n) (listOf f n) := by
  have h2 : Row w g 5 n (fun j => .int .u8 (f j)) := h.congr (fun j hj => by simp [CloneAt, hj])
  have := h2.owns hB hn
  unfold Owns
  rw [listOf_length]
  have e : cellsOf (listOf f n) = (List.range n).map (fun j => Value.int .u8 (f j)) := by simp [cellsOf, listOf]
  rw [e]; exact this

set_option maxHeartbeats 400000 in
theorem clone6 (a : Option Addr) (b off n cap : Nat) (f : Nat → Int) (w : World) (hn : n ≤ 1048600) (hnil : a = none → n = 0 ∧ cap = 0) (hs : Bys w a b off n f) :
    Calls Try.prog 6 #[.slice a n cap] w fun e w' => (∃ v, e = .returned v ∧ Owns w' w.heap.size v (listOf f n)) ∧ Below w.heap.size w w' := by
  obtain ⟨i0, hi, hz0, hz1, hz2⟩ := info_parts info5
  cases a with
  | none =>
    obtain ⟨rfl, rfl⟩ := hnil rfl
    have hnq : ∀ w, (binOp .eql 22 (.slice none 0 0) (.slice none 0 0)).run Try.prog w = .ok (.bool true) w := fun w => Lib.run_eql_slice_nil w 22 5 none 0 0 0 0 Try.underlying22
    go_enter Try.func6, Try.ntmps6
    go_wp2
    go_ret
    exact ⟨⟨_, rfl, World.ownsRow_nil _ _ _ _⟩, Below.refl _ _⟩
  | some ad =>
    have hnq : ∀ w, (binOp .eql 22 (.slice (some ad) n cap) (.slice none 0 0)).run Try.prog w = .ok (.bool false) w := fun w => Lib.run_eql_slice_nil w 22 5 (some ad) n cap 0 0 Try.underlying22
    go_enter Try.func6, Try.ntmps6
    go_wp2_with (first
      | (at_make; refine wpList_make_row _ rfl _ _ 22 rfl 5 i0 _ Try.underlying22 hi hz0 hz1 rfl _ _ _ _ n rfl rfl rfl rfl (by rw [hz2]; omega) (by unfold maxLen; omega) ?_; intro w1 hrow1 hb1)
      | go_in)
    go_loopw [4] (fun z wr => ∃ q : Nat, q ≤ n ∧ Row wr w.heap.size 5 n (CloneAt f q) ∧ Below w.heap.size w wr ∧ z = .int .i64 q) (fun z _ => n - (intOf z).toNat)
    case atStart => exact ⟨0, Nat.zero_le _, hrow1.congr (fun j _ => by simp [CloneAt]), hb1, rfl⟩
    case round =>
      clear hrow1 hb1
      obtain ⟨q, hq, hrow, hbr, rfl⟩ := hrel
      by_cases hqn : q < n
      · have hcx := (hs.belowSelf hbr).cell q hqn
        have hcy := hrow.cell (j := q) (by omega)
        have hcf := hrow.free q
        obtain rfl := Option.some.inj (hs.addr (by omega))
        go_wp2
        go_roundw
        case rel => exact ⟨q + 1, by omega, (hrow.set (by omega) _).congr (fun j _ => CloneAt.step f q j), hbr.setCell (Nat.le_refl _) _, by go_num⟩
        case measure => simp [intOf]; omega
      · obtain rfl : q = n := by omega
        go_wp2
        go_ret
        exact ⟨⟨_, rfl, hrow.ownsBytes (Nat.le_refl _) (by unfold maxLen; omega)⟩, hbr⟩

/-! ### zzEqual: true where the two hold the same -/
set_option maxHeartbeats 400000 in
theorem equal11 (a a' : Option Addr) (b off b' off' n cap cap' : Nat) (f : Nat → Int) (w : World) (hn : n ≤ maxLen) (hs : Bys w a b off n f) (hs' : Bys w a' b' off' n f) :
    Calls Try.prog 11 #[.slice a n cap, .slice a' n cap'] w fun e w' => e = .returned (.bool true) ∧ Below w.heap.size w w' := by
  unfold maxLen at hn
  go_enter Try.func11, Try.ntmps11
  go_wp2
  go_loopw [5] (fun z wr => ∃ q t : Nat, q ≤ n ∧ wr = w.drewN t ∧ z = .int .i64 q) (fun z _ => n - (intOf z).toNat)
  case atStart => exact ⟨0, 0, Nat.zero_le _, rfl, rfl⟩
  case round =>
    obtain ⟨q, t, hq, rfl, rfl⟩ := hrel
    by_cases hqn : q < n
    · have hcx := hs.cell q hqn
      have hcy := hs'.cell q hqn
      obtain rfl := hs.addr (by omega)
      obtain rfl := hs'.addr (by omega)
      go_wp2
      go_quiet (fail)
      go_wp2
      go_roundw
      case rel => exact ⟨q + 1, _, by omega, by first | rfl | rw [World.drewN_drewN], by go_num⟩
      case measure => simp [intOf]; omega
    · go_wp2
      go_ret
      exact ⟨rfl, below_drewN (Below.refl _ _) _⟩
end Go.Proofs.Qxb6616595a
