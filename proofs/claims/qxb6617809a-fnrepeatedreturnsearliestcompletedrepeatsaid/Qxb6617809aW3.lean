import Derived.Test.Qxb6617809aW2
namespace Go.Proofs.Qxb6617809a
open Go.RowKit

theorem info9 : (Try.prog.info? 9).map (fun i => (i.zero, i.size, i.bytes)) = some (some (.string ByteArray.empty), 1, 16) := by kernel_rfl
theorem size9 : (Try.prog.info? 9).map (·.size) = some 1 := by kernel_rfl

set_option maxHeartbeats 400000 in
theorem walk4_nil (i : Int) (w : World) :
    Calls Try.prog 4 #[.slice none 0 0, .int .i64 i] w fun e w' => e = .returned (.bool true) ∧ Below w.heap.size w w' := by
  have hnq : ∀ w, (binOp .neq 22 (.slice none 0 0) (.slice none 0 0)).run Try.prog w = .ok (.bool false) w := fun w => run_neq_slice_nil_any w 22 9 none 0 0 0 0 Try.underlying22
  have hs : Strs w none 0 0 0 (fun _ => ByteArray.empty) := ⟨fun h => absurd h (by omega), fun j h => absurd h (by omega), fun j h => absurd h (by omega), fun h => absurd h (by omega)⟩
  go_enter Try.func4, Try.ntmps4
  go_wp2_with fail
  refine (bytes10 none 0 0 0 0 _ i _ (by unfold maxLen; omega) hs).mono ?_
  rintro e w' ⟨⟨r, rfl⟩, rfl⟩
  cases r
  · go_wp2
    go_ret
    exact ⟨rfl, Below.refl _ _⟩
  · by_cases hi : i < 0
    · go_wp2
      refine wp_loop_rounds 1 ?_
      rw [rounds_succ]
      go_wp2
      go_ret
      exact ⟨rfl, Below.refl _ _⟩
    · go_wp2
      refine wp_loop_rounds 1 ?_
      rw [rounds_succ]
      go_wp2
      go_ret
      exact ⟨rfl, Below.refl _ _⟩

/-- 'ext' behind k rounds -/
def Ext (S : Nat → ByteArray) (k : Nat) : Nat → Value := fun j => if j < k then .string (S j) else .string ByteArray.empty
theorem Ext.step (S : Nat → ByteArray) (k j : Nat) : Ext S (k + 1) j = upd (Ext S k) k (.string (S k)) j := by
  unfold Ext upd
  by_cases h : j = k
  · subst h; simp
  · by_cases h2 : j < k
    · simp [h, h2, show j < k + 1 by omega]
    · simp [h, h2, show ¬ j < k + 1 by omega]
def ExtS (S : Nat → ByteArray) (n i : Nat) : Nat → ByteArray := fun j => if j < n then S j else S i
theorem ExtS.eq (S : Nat → ByteArray) (n i j : Nat) (hj : j < n + 1) : Value.string (ExtS S n i j) = upd (Ext S n) n (.string (S i)) j := by
  unfold ExtS Ext upd
  by_cases h : j = n
  · subst h; simp
  · simp [h, show j < n by omega]

set_option maxHeartbeats 2000000 in
set_option maxRecDepth 100000 in
theorem walk4_some (ad : Addr) (b off n cap : Nat) (S : Nat → ByteArray) (i : Int) (w : World) (hncap : n ≤ cap) (hcm : cap ≤ maxLen) (hs : Strs w (some ad) b off n S) :
    Calls Try.prog 4 #[.slice (some ad) n cap, .int .i64 i] w fun e w' => e = .returned (.bool true) ∧ Below w.heap.size w w' := by
  have hnq : ∀ w, (binOp .neq 22 (.slice (some ad) n cap) (.slice none 0 0)).run Try.prog w = .ok (.bool true) w := fun w => run_neq_slice_nil_any w 22 9 (some ad) n cap 0 0 Try.underlying22
  obtain ⟨i0, hi, hz0, hz1, hz2⟩ := info_parts info9
  have hcm' := hcm
  unfold maxLen at hcm'
  by_cases h16 : 65536 < n
  · go_enter Try.func4, Try.ntmps4
    go_wp2_with fail
    refine (bytes10 _ b off n cap S i _ (by omega) hs).mono ?_
    rintro e w' ⟨⟨r, rfl⟩, rfl⟩
    cases r
    · go_wp2
      go_ret
      exact ⟨rfl, Below.refl _ _⟩
    · go_wp2
      go_ret
      exact ⟨rfl, Below.refl _ _⟩
  have hd16 : decide ((65536 : Int) < (n : Int)) = false := by simp; omega
  go_enter Try.func4, Try.ntmps4
  go_wp2_with fail
  refine (bytes10 _ b off n cap S i _ (by omega) hs).mono ?_
  rintro e w' ⟨⟨r, rfl⟩, rfl⟩
  cases r
  · go_wp2
    go_ret
    exact ⟨rfl, Below.refl _ _⟩
  go_wp2_with (first
    | (at_make; refine wpList_make_row _ rfl _ _ 22 rfl 9 i0 _ Try.underlying22 hi hz0 hz1 rfl _ _ _ _ n rfl rfl rfl rfl (by rw [hz2]; omega) (by unfold maxLen; omega) ?_; intro w1 hrow1 hb1)
    | (refine wpList_copy_row rfl (.tmp 27) (.tmp 28) 22 22 rfl 9 Try.underlying22 size9 w.heap.size n n cap (some ad) rfl rfl 9 _ hrow1 b off S (hs.belowSelf hb1) w.heap.size w hb1 (Nat.le_refl _) ?_; intro w2 hrow2 hb2)
    | go_in)
  have hlt2 := hrow2.lt
  have hs2 : Strs w2 (some ⟨w.heap.size, 0, none⟩) w.heap.size 0 n S := hrow2.strs hs.size
  clear hrow1 hb1 hs hnq hrow2
  go_loop [6, 33] (fun z i => ∃ (t : Int) (k : Nat), k ≤ n ∧ 0 ≤ t ∧ t ≤ 1048576 ∧ z = .int .i64 t ∧ i = .int .i64 k) (fun _ i => n - (intOf i).toNat)
  case atStart => exact ⟨_, 0, Nat.zero_le _, by omega, by omega, rfl, rfl⟩
  case round =>
    obtain ⟨t, k, hk, ht0, ht, rfl, rfl⟩ := hrel
    by_cases hlt : k < n
    · have hcx := hs2.cell k hlt
      have hsx := hs2.size k hlt
      unfold maxLen at hsx
      rw [Nat.zero_add] at hcx
      go_wp2
      · go_ret
        exact ⟨rfl, hb2⟩
      · go_ret
        exact ⟨rfl, hb2⟩
      · go_round
        case rel => exact ⟨_, k + 1, by omega, by omega, by omega, rfl, by go_num⟩
        case measure => simp [intOf]; omega
    · obtain rfl : k = n := by omega
      by_cases hi0 : i < 0
      · go_wp2
        go_ret
        exact ⟨rfl, hb2⟩
      obtain ⟨m, rfl⟩ := Int.eq_ofNat_of_zero_le (show 0 ≤ i by omega)
      by_cases hin : k ≤ m
      · go_wp2
        go_ret
        exact ⟨rfl, hb2⟩
      go_wp2_with fail
      refine (repeated9 _ w.heap.size 0 k k S _ (Nat.le_refl _) (by unfold maxLen; omega) hs2).mono ?_
      rintro e w3 ⟨⟨x, r, rfl, hr⟩, hb3⟩
      have hlt3 : w.heap.size < w3.heap.size := Nat.lt_of_lt_of_le hlt2 hb3.size
      have hs3 := hs2.belowSelf hb3
      have hbw3 : Below w.heap.size w w3 := hb2.trans (hb3.mono (by omega))
      have HR := hr
      clear hs2 hb3 hb2 hlt2 hr
      go_wp2_with (first
        | (at_make; refine wpList_make_row _ rfl _ _ 22 rfl 9 i0 _ Try.underlying22 hi hz0 hz1 rfl _ _ _ _ (k + 1) rfl rfl (by omega) (by omega) (by rw [hz2]; omega) (by unfold maxLen; omega) ?_; intro w4 hrow4 hb4)
        | go_in)
      go_loopw [12] (fun z wr => ∃ (q : Nat), q ≤ k ∧ Row wr w3.heap.size 9 (k + 1) (Ext S q) ∧ Below w3.heap.size w3 wr ∧ z = .int .i64 q) (fun z _ => k - (intOf z).toNat)
      case atStart => exact ⟨0, Nat.zero_le _, hrow4.congr (fun j _ => by simp [Ext]), hb4, rfl⟩
      case round =>
        obtain ⟨q, hq, hrow, hbr, rfl⟩ := hrel
        have hsr := hs3.belowSelf hbr
        by_cases hqk : q < k
        · have hcx := hsr.cell q hqk
          rw [Nat.zero_add] at hcx
          have hcy := hrow.cell (j := q) (by omega)
          have hcf := hrow.free q
          go_wp2
          go_roundw
          case rel => exact ⟨q + 1, by omega, (hrow.set (by omega) _).congr (fun j _ => Ext.step S q j), hbr.setCell (Nat.le_refl _) _, by go_num⟩
          case measure => simp [intOf]; omega
        · obtain rfl : q = k := by omega
          have hcx := hsr.cell m (by omega)
          rw [Nat.zero_add] at hcx
          have hcy := hrow.cell (j := q) (by omega)
          have hcf := hrow.free q
          have hrow5 := (hrow.set (show q < q + 1 by omega) (.string (S m))).congr (fun j hj => ExtS.eq S q m j hj)
          have hs5 := hrow5.strs (S := ExtS S q m) (fun j hj => by unfold ExtS; split; exact hs3.size j (by assumption); exact hs3.size m (by omega))
          go_wp2_with fail
          refine (repeated9 _ w3.heap.size 0 (q + 1) (q + 1) (ExtS S q m) _ (Nat.le_refl _) (by unfold maxLen; omega) hs5).mono ?_
          rintro e w6 ⟨⟨y, r2, rfl, hr2⟩, hb6⟩
          have hsz := hbr.size
          have hb36 : Below w3.heap.size w3 w6 := (hbr.setCell (p := ⟨w3.heap.size, q, none⟩) (Nat.le_refl _) (.string (S m))).trans (hb6.mono (by simp; omega))
          have hs6 := hs3.belowSelf hb36
          have hbw6 : Below w.heap.size w w6 := hbw3.trans (hb36.mono (by omega))
          obtain ⟨h1, h2, h3⟩ := Plain.RepIs.appended (show m < q by omega) (T := ExtS S q m) (fun j hj => by simp [ExtS, hj]) (by simp [ExtS]) HR hr2
          clear hr2 HR hrow5 hs5 hrow hbr hsr hcx hcy hcf hb6 hb36 hbw3 hrow4 hb4 hs3
          subst h1
          cases r
          · obtain ⟨rfl, rfl⟩ := h3 rfl
            clear h2 h3
            have hcx := hs6.cell m (by omega)
            rw [Nat.zero_add] at hcx
            go_wp2
            go_ret
            exact ⟨by simp, hbw6⟩
          · obtain ⟨rfl, htw⟩ := h2 rfl
            have HT : Twice S q y := htw
            clear h2 h3 htw
            go_wp2_with fail
            refine (count11 _ w.heap.size 0 q q S y _ (by unfold maxLen; omega) hs6).mono ?_
            rintro e w7 ⟨⟨c, rfl, hc2⟩, rfl⟩
            have hc := hc2 HT
            go_wp2
            go_ret
            exact ⟨by simp, hbw6⟩

theorem walk4 (a : Option Addr) (b off n cap : Nat) (S : Nat → ByteArray) (i : Int) (w : World) (hncap : n ≤ cap) (hcm : cap ≤ maxLen) (hnil : a = none → cap = 0) (hs : Strs w a b off n S) :
    Calls Try.prog 4 #[.slice a n cap, .int .i64 i] w fun e w' => e = .returned (.bool true) ∧ Below w.heap.size w w' := by
  cases a with
  | none =>
    obtain rfl := hnil rfl
    obtain rfl : n = 0 := by omega
    exact walk4_nil i w
  | some ad => exact walk4_some ad b off n cap S i w hncap hcm hs
end Go.Proofs.Qxb6617809a
