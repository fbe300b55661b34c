import Derived.Test.Qxb6617809aW2
import Derived.Test.Qxb6617809aOrd
import Derived.Deep.QuietTactic
import Derived.BigQuiet
namespace Go.Proofs.Qxb6617809a
open Go.RowKit

/-! ### cmp.Less, isNaN -/
theorem isNaN25 (x : ByteArray) (w : World) : Calls Try.prog 25 #[.string x] w fun e w' => e = .returned (.bool false) ∧ w = w' := by
  go_enter Try.func25, Try.ntmps25
  go_wp2
  go_ret
  exact ⟨by simp, rfl⟩
theorem isNaN27 (x : ByteArray) (w : World) : Calls Try.prog 27 #[.string x] w fun e w' => e = .returned (.bool false) ∧ w = w' := by
  go_enter Try.func27, Try.ntmps27
  go_wp2
  go_ret
  exact ⟨by simp, rfl⟩
set_option maxHeartbeats 400000 in
theorem cmpLess24 (x y : ByteArray) (w : World) : Calls Try.prog 24 #[.string x, .string y] w fun e w' => e = .returned (.bool (Op.bytesLess x.toList y.toList)) ∧ w = w' := by
  go_enter Try.func24, Try.ntmps24
  go_wp2_with (go_at_call 27; refine (isNaN27 _ _).mono ?_; rintro e w' ⟨rfl, rfl⟩)
  go_ret
  exact ⟨rfl, rfl⟩

/-! ### a sorted list -/
def SortedS (S : Nat → ByteArray) (n : Nat) : Prop := ∀ i j, i < j → j < n → ¬ sLt (S j) (S i)

theorem sLt_false {x y : ByteArray} : Op.bytesLess x.toList y.toList = false ↔ ¬ sLt x y := by simp [sLt]

/-- what the halving knows -/
structure Half (S : Nat → ByteArray) (n : Nat) (x : ByteArray) (lo hi : Nat) : Prop where
  le : lo ≤ hi
  hn : hi ≤ n
  below : ∀ t, t < lo → sLt (S t) x
  above : ∀ t, hi ≤ t → t < n → ¬ sLt (S t) x

theorem Half.start (S : Nat → ByteArray) (n : Nat) (x : ByteArray) : Half S n x 0 n := ⟨Nat.zero_le _, Nat.le_refl _, fun t h => absurd h (by omega), fun t h h' => absurd h (by omega)⟩

theorem lt_of_sorted {S : Nat → ByteArray} {n : Nat} (h : SortedS S n) {x : ByteArray} {t m : Nat} (htm : t ≤ m) (hm : m < n) (hx : sLt (S m) x) : sLt (S t) x := by
  by_cases e : t = m
  · subst e; exact hx
  · by_cases e2 : S t = S m
    · rw [e2]; exact hx
    · rcases sLt_total _ _ e2 with h1 | h1
      · exact sLt_trans _ _ _ h1 hx
      · exact absurd h1 (h t m (by omega) hm)

theorem Half.right {S : Nat → ByteArray} {n lo hi m : Nat} {x : ByteArray} (h : Half S n x lo hi) (hs : SortedS S n) (h2 : m < hi) (hx : sLt (S m) x) : Half S n x (m + 1) hi :=
  ⟨by omega, h.hn, fun t ht => lt_of_sorted hs (show t ≤ m by omega) (by have := h.hn; omega) hx, h.above⟩
theorem Half.left {S : Nat → ByteArray} {n lo hi m : Nat} {x : ByteArray} (h : Half S n x lo hi) (hs : SortedS S n) (h1 : lo ≤ m) (h2 : m < hi) (hx : ¬ sLt (S m) x) : Half S n x lo m :=
  ⟨h1, by have := h.hn; omega, h.below, fun t ht htn hlt => hx (lt_of_sorted hs ht htn hlt)⟩

/-- found just where x is among them -/
theorem Half.found {S : Nat → ByteArray} {n k : Nat} {x : ByteArray} (h : Half S n x k k) (hs : SortedS S n) : inB S n x = true ↔ k < n ∧ S k = x := by
  rw [inB_iff]
  constructor
  · rintro ⟨j, hj, rfl⟩
    have hkj : k ≤ j := by
      rcases Nat.lt_or_ge j k with h1 | h1
      · exact absurd (h.below j h1) (sLt_irrefl _)
      · exact h1
    refine ⟨by omega, ?_⟩
    by_cases e : S k = S j
    · exact e
    · exfalso
      rcases sLt_total _ _ e with h1 | h1
      · exact h.above k (Nat.le_refl _) (by omega) h1
      · by_cases e2 : k = j
        · subst e2; exact sLt_irrefl _ h1
        · exact hs k j (by omega) hj h1
  · rintro ⟨h1, h2⟩
    exact ⟨k, h1, h2⟩

set_option maxHeartbeats 1000000 in
theorem search21 (a : Option Addr) (b off n cap : Nat) (S : Nat → ByteArray) (x : ByteArray) (w : World) (hn : n ≤ 4294967296) (hs : Strs w a b off n S) (hsort : SortedS S n) :
    Calls Try.prog 21 #[.slice a n cap, .string x] w fun e w' => (∃ k : Int, e = .returned (.tuple #[.int .i64 k, .bool (inB S n x)])) ∧ w = w' := by
  go_enter Try.func21, Try.ntmps21
  go_wp2
  go_loop [7, 8] (fun zi zj => ∃ lo hi : Nat, Half S n x lo hi ∧ zi = .int .i64 lo ∧ zj = .int .i64 hi) (fun zi zj => (intOf zj).toNat - (intOf zi).toNat)
  case atStart => exact ⟨0, n, Half.start S n x, rfl, rfl⟩
  case round =>
    obtain ⟨lo, hi, hh, rfl, rfl⟩ := hrel
    have e1 := hh.le
    have e2 := hh.hn
    by_cases hlt : lo < hi
    · have cm := hs.cell ((lo + hi) / 2) (by omega)
      obtain rfl := hs.addr (by omega)
      have em : ((lo : Int) + (hi : Int)) / 2 = (((lo + hi) / 2 : Nat) : Int) := by omega
      have HM : Hid (((lo : Int) + (hi : Int)) / 2 = (((lo + hi) / 2 : Nat) : Int)) := em
      clear em
      cases hyx : Op.bytesLess (S ((lo + hi) / 2)).toList x.toList
      · have hh2 := hh.left hsort (show lo ≤ (lo + hi) / 2 by omega) (by omega) (sLt_false.1 hyx)
        go_wp2_with fail
        refine (cmpLess24 _ _ _).mono ?_
        rintro e w' ⟨rfl, rfl⟩
        rw [hyx]
        go_wp2
        go_round
        case rel => exact ⟨lo, (lo + hi) / 2, hh2, rfl, by rw [HM.out]⟩
        case measure => simp [intOf]; omega
      · have hh2 := hh.right hsort (show (lo + hi) / 2 < hi by omega) hyx
        go_wp2_with fail
        refine (cmpLess24 _ _ _).mono ?_
        rintro e w' ⟨rfl, rfl⟩
        rw [hyx]
        go_wp2
        go_round
        case rel => exact ⟨(lo + hi) / 2 + 1, hi, hh2, by rw [HM.out]; rfl, rfl⟩
        case measure => simp [intOf]; omega
    · obtain rfl : hi = lo := by omega
      have hf := hh.found hsort
      by_cases hn2 : hi < n
      · have cl := hs.cell hi hn2
        obtain rfl := hs.addr (by omega)
        by_cases heq : S hi = x
        · have hb : ((S hi).toList == x.toList) = true := by rw [heq]; simp
          have HT : Hid (inB S n x = true) := hf.2 ⟨hn2, heq⟩
          clear heq hf
          go_wp2
          go_ret2
          exact ⟨⟨_, by rw [HT.out]; rfl⟩, rfl⟩
        · have hb : ((S hi).toList == x.toList) = false := (Lib.bytes_beq_false_iff _ _).2 heq
          have HT : Hid (inB S n x = false) := by
            cases h : inB S n x
            · rfl
            · exact absurd (hf.1 h).2 heq
          clear heq hf
          go_wp2_with (go_at_call 25; refine (isNaN25 _ _).mono ?_; rintro e w' ⟨rfl, rfl⟩)
          go_ret2
          exact ⟨⟨_, by rw [HT.out]; rfl⟩, rfl⟩
      · have HT : Hid (inB S n x = false) := by
          cases h : inB S n x
          · rfl
          · exact absurd (hf.1 h).1 hn2
        clear hf
        go_wp2
        go_ret2
        exact ⟨⟨_, by rw [HT.out]; rfl⟩, rfl⟩
end Go.Proofs.Qxb6617809a
