import Derived.Test.Qxb6617809aW5
import Derived.Test.Qxb6617809aW3
namespace Go.Proofs.Qxb6617809a
open Go.RowKit

set_option maxHeartbeats 400000 in
theorem walk3_nil (w : World) :
    Calls Try.prog 3 #[.slice none 0 0] w fun e w' => e = .returned (.bool true) ∧ Below w.heap.size w w' := by
  have hnq : ∀ w, (binOp .neq 22 (.slice none 0 0) (.slice none 0 0)).run Try.prog w = .ok (.bool false) w := fun w => run_neq_slice_nil_any w 22 9 none 0 0 0 0 Try.underlying22
  have hs : ∀ w, Strs w none 0 0 0 (fun _ => ByteArray.empty) := fun w => ⟨fun h => absurd h (by omega), fun j h => absurd h (by omega), fun j h => absurd h (by omega), fun h => absurd h (by omega)⟩
  go_enter Try.func3, Try.ntmps3
  go_wp2_with fail
  refine (bytes7 none 0 0 0 0 _ _ (by unfold maxLen; omega) (hs _)).mono ?_
  rintro e w' ⟨⟨r, rfl⟩, rfl⟩
  cases r
  · go_wp2
    go_ret
    exact ⟨rfl, Below.refl _ _⟩
  go_wp2
  refine wp_loop_rounds 1 ?_
  rw [rounds_succ]
  go_wp2_with fail
  refine (earliest8 none 0 0 0 0 _ _ (by omega) (hs _)).mono ?_
  rintro e w1 ⟨⟨x, r, rfl, hr⟩, hb1⟩
  go_wp2_with fail
  refine (repeated9 none 0 0 0 0 _ _ (Nat.le_refl _) (by unfold maxLen; omega) (hs _)).mono ?_
  rintro e w2 ⟨⟨y, r2, rfl, hr2⟩, hb2⟩
  obtain ⟨rfl, rfl⟩ := hr.unique hr2
  have hbw := hb1.trans (hb2.mono hb1.size)
  clear hr hr2 hb1 hb2
  go_wp2
  go_ret
  exact ⟨by simp, hbw⟩

set_option maxHeartbeats 2000000 in
set_option maxRecDepth 100000 in
theorem walk3_some (ad : Addr) (b off n cap : Nat) (S : Nat → ByteArray) (w : World) (hncap : n ≤ cap) (hcm : cap ≤ maxLen) (hs : Strs w (some ad) b off n S) :
    Calls Try.prog 3 #[.slice (some ad) n cap] w fun e w' => e = .returned (.bool true) ∧ Below w.heap.size w w' := by
  have hnq : ∀ w, (binOp .neq 22 (.slice (some ad) n cap) (.slice none 0 0)).run Try.prog w = .ok (.bool true) w := fun w => run_neq_slice_nil_any w 22 9 (some ad) n cap 0 0 Try.underlying22
  obtain ⟨i0, hi, hz0, hz1, hz2⟩ := info_parts info9
  have hcm' := hcm
  unfold maxLen at hcm'
  by_cases h16 : 65536 < n
  · go_enter Try.func3, Try.ntmps3
    go_wp2_with fail
    refine (bytes7 _ b off n cap S _ (by omega) hs).mono ?_
    rintro e w' ⟨⟨r, rfl⟩, rfl⟩
    cases r
    · go_wp2
      go_ret
      exact ⟨rfl, Below.refl _ _⟩
    · go_wp2
      go_ret
      exact ⟨rfl, Below.refl _ _⟩
  have hd16 : decide ((65536 : Int) < (n : Int)) = false := by simp; omega
  go_enter Try.func3, Try.ntmps3
  go_wp2_with fail
  refine (bytes7 _ b off n cap S _ (by omega) hs).mono ?_
  rintro e w' ⟨⟨r, rfl⟩, rfl⟩
  cases r
  · go_wp2
    go_ret
    exact ⟨rfl, Below.refl _ _⟩
  go_wp2_with (first
    | (at_make; refine wpList_make_row _ rfl _ _ 22 rfl 9 i0 _ Try.underlying22 hi hz0 hz1 rfl _ _ _ _ n rfl rfl rfl rfl (by rw [hz2]; omega) (by unfold maxLen; omega) ?_; intro w1 hrow1 hb1)
    | (refine wpList_copy_row rfl (.tmp 22) (.tmp 23) 22 22 rfl 9 Try.underlying22 size9 w.heap.size n n cap (some ad) rfl rfl 9 _ hrow1 b off S (hs.belowSelf hb1) w.heap.size w hb1 (Nat.le_refl _) ?_; intro w2 hrow2 hb2)
    | go_in)
  have hlt2 := hrow2.lt
  have hs2 : Strs w2 (some ⟨w.heap.size, 0, none⟩) w.heap.size 0 n S := hrow2.strs hs.size
  clear hrow1 hb1 hs hnq hrow2
  go_loop [4, 28] (fun z i => ∃ (t : Int) (k : Nat), k ≤ n ∧ 0 ≤ t ∧ t ≤ 1048576 ∧ z = .int .i64 t ∧ i = .int .i64 k) (fun _ i => n - (intOf i).toNat)
  case atStart => exact ⟨_, 0, Nat.zero_le _, by omega, by omega, rfl, rfl⟩
  case round =>
    obtain ⟨t, k, hk, ht0, ht, rfl, rfl⟩ := hrel
    by_cases hlt : k < n
    · have hcx := hs2.cell k hlt
      have hsx := hs2.size k hlt
      unfold maxLen at hsx
      rw [Nat.zero_add] at hcx
      go_wp2
      · go_ret
        exact ⟨rfl, hb2⟩
      · go_ret
        exact ⟨rfl, hb2⟩
      · go_round
        case rel => exact ⟨_, k + 1, by omega, by omega, by omega, rfl, by go_num⟩
        case measure => simp [intOf]; omega
    · obtain rfl : k = n := by omega
      go_wp2_with fail
      refine (earliest8 _ w.heap.size 0 k k S _ (by omega) hs2).mono ?_
      rintro e w3 ⟨⟨x, r, rfl, hr⟩, hb3⟩
      have hs3 := hs2.belowSelf hb3
      go_wp2_with fail
      refine (repeated9 _ w.heap.size 0 k k S _ (Nat.le_refl _) (by unfold maxLen; omega) hs3).mono ?_
      rintro e w4 ⟨⟨y, r2, rfl, hr2⟩, hb4⟩
      obtain ⟨rfl, rfl⟩ := hr.unique hr2
      have h23 := hb3.size
      have hbw := (hb2.trans (hb3.mono (Nat.le_of_lt hlt2))).trans (hb4.mono (show w.heap.size ≤ w3.heap.size by omega))
      clear hr hr2 hb3 hb4 hs2 hs3 hb2
      go_wp2
      go_ret
      exact ⟨by simp, hbw⟩

theorem walk3 (a : Option Addr) (b off n cap : Nat) (S : Nat → ByteArray) (w : World) (hncap : n ≤ cap) (hcm : cap ≤ maxLen) (hnil : a = none → cap = 0) (hs : Strs w a b off n S) :
    Calls Try.prog 3 #[.slice a n cap] w fun e w' => e = .returned (.bool true) ∧ Below w.heap.size w w' := by
  cases a with
  | none =>
    obtain rfl := hnil rfl
    obtain rfl : n = 0 := by omega
    exact walk3_nil w
  | some ad => exact walk3_some ad b off n cap S w hncap hcm hs
end Go.Proofs.Qxb6617809a
