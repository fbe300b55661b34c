import Derived.Test.Qxb6617809aW9
namespace Go.Proofs.Qxb6617809a
open Go.RowKit

/-! ### insertSorted -/
def InsS (S : Nat → ByteArray) (x : ByteArray) (p : Nat) : Nat → ByteArray := fun j => if j < p then S j else if j = p then x else S (j - 1)

structure InsPos (S : Nat → ByteArray) (n : Nat) (x : ByteArray) (p : Nat) : Prop where
  le : p ≤ n
  below : ∀ j, j < p → sLt (S j) x
  stop : p < n → ¬ sLt (S p) x

theorem InsPos.sorted {S : Nat → ByteArray} {n p : Nat} {x : ByteArray} (h : InsPos S n x p) (hs : SortedS S n) : SortedS (InsS S x p) (n + 1) := by
  have hle := h.le
  intro i j hij hj
  unfold InsS
  by_cases h1 : j < p
  · rw [if_pos h1, if_pos (by omega)]; exact hs i j hij (by omega)
  · by_cases h2 : j = p
    · rw [if_neg h1, if_pos h2, if_pos (by omega)]; exact sLt_asym (h.below i (by omega))
    · rw [if_neg h1, if_neg h2]
      by_cases h3 : i < p
      · rw [if_pos h3]
        exact hs i (j - 1) (by omega) (by omega)
      · by_cases h4 : i = p
        · rw [if_neg h3, if_pos h4]
          intro hlt
          exact h.stop (by omega) (lt_of_sorted hs (show p ≤ j - 1 by omega) (by omega) hlt)
        · rw [if_neg h3, if_neg h4]; exact hs (i - 1) (j - 1) (by omega) (by omega)

theorem InsPos.mem {S : Nat → ByteArray} {n p : Nat} {x : ByteArray} (h : InsPos S n x p) (y : ByteArray) : inB (InsS S x p) (n + 1) y = (inB S n y || decide (x = y)) := by
  have hle := h.le
  rw [Bool.eq_iff_iff, Bool.or_eq_true, inB_iff, inB_iff, decide_eq_true_eq]
  constructor
  · rintro ⟨j, hj, e⟩
    unfold InsS at e
    by_cases h1 : j < p
    · rw [if_pos h1] at e; exact .inl ⟨j, by omega, e⟩
    · by_cases h2 : j = p
      · rw [if_neg h1, if_pos h2] at e; exact .inr e
      · rw [if_neg h1, if_neg h2] at e; exact .inl ⟨j - 1, by omega, e⟩
  · rintro (⟨j, hj, e⟩ | e)
    · by_cases h1 : j < p
      · exact ⟨j, by omega, by unfold InsS; rw [if_pos h1]; exact e⟩
      · exact ⟨j + 1, by omega, by unfold InsS; rw [if_neg (by omega), if_neg (by omega)]; exact e⟩
    · exact ⟨p, by omega, by unfold InsS; rw [if_neg (by omega), if_pos rfl]; exact e⟩

/-- 'out' behind the first loop's k rounds -/
def HeadAt (S : Nat → ByteArray) (k : Nat) : Nat → Value := fun j => if j < k then .string (S j) else .string ByteArray.empty
theorem HeadAt.step (S : Nat → ByteArray) (k j : Nat) : HeadAt S (k + 1) j = upd (HeadAt S k) k (.string (S k)) j := by
  unfold HeadAt upd
  by_cases h : j = k
  · subst h; simp
  · by_cases h2 : j < k
    · simp [h, h2, show j < k + 1 by omega]
    · simp [h, h2, show ¬ j < k + 1 by omega]
/-- 'out' behind the second loop's rounds up to q -/
def InsAt (S : Nat → ByteArray) (x : ByteArray) (p q : Nat) : Nat → Value := fun j => if j < p then .string (S j) else if j = p then .string x else if j ≤ q then .string (S (j - 1)) else .string ByteArray.empty
theorem InsAt.start (S : Nat → ByteArray) (x : ByteArray) (p j : Nat) : InsAt S x p p j = upd (HeadAt S p) p (.string x) j := by
  unfold InsAt HeadAt upd
  by_cases h : j = p
  · subst h; simp
  · by_cases h2 : j < p
    · simp [h, h2]
    · simp [h, h2, show ¬ j ≤ p by omega]
theorem InsAt.step (S : Nat → ByteArray) (x : ByteArray) (p q j : Nat) (hpq : p ≤ q) : InsAt S x p (q + 1) j = upd (InsAt S x p q) (q + 1) (.string (S q)) j := by
  unfold InsAt upd
  by_cases h : j = q + 1
  · subst h
    simp [show ¬ q + 1 < p by omega, show ¬ q + 1 = p by omega]
  · by_cases h1 : j < p
    · simp [h, h1]
    · by_cases h2 : j = p
      · subst h2; simp [h]
      · by_cases h3 : j ≤ q
        · simp [h, h1, h2, h3, show j ≤ q + 1 by omega]
        · simp [h, h1, h2, h3, show ¬ j ≤ q + 1 by omega]
theorem InsAt.done (S : Nat → ByteArray) (x : ByteArray) (p n j : Nat) (hj : j < n + 1) : Value.string (InsS S x p j) = InsAt S x p n j := by
  unfold InsS InsAt
  by_cases h1 : j < p
  · simp [h1]
  · by_cases h2 : j = p
    · simp [h2]
    · simp [h1, h2, show j ≤ n by omega]

theorem info9' : (Try.prog.info? 9).map (fun i => (i.zero, i.size, i.bytes)) = some (some (.string ByteArray.empty), 1, 16) := by kernel_rfl

/-- what insertSorted hands back: a new row with x among its elements, sorted -/
structure Inserted (w w' : World) (n : Nat) (S : Nat → ByteArray) (x : ByteArray) (v : Value) : Prop where
  ex : ∃ (T : Nat → ByteArray) (g : Nat), v = .slice (some ⟨g, 0, none⟩) (n + 1) (n + 1) ∧ Strs w' (some ⟨g, 0, none⟩) g 0 (n + 1) T ∧ SortedS T (n + 1) ∧ ∀ y, inB T (n + 1) y = (inB S n y || decide (x = y))
  bel : Below w.heap.size w w'

theorem Inserted.mk' {w w' : World} {n p g : Nat} {S : Nat → ByteArray} {x : ByteArray} (hsort : SortedS S n) (hS : ∀ j, j < n → (S j).size ≤ maxLen) (hx : x.size ≤ maxLen) (hpos : InsPos S n x p)
    (hrow : Row w' g 9 (n + 1) (InsAt S x p n)) (hb : Below w.heap.size w w') : Inserted w w' n S x (.slice (some ⟨g, 0, none⟩) (n + 1) (n + 1)) := by
  have hle := hpos.le
  refine ⟨⟨InsS S x p, g, rfl, (hrow.congr (fun j hj => InsAt.done S x p n j hj)).strs (fun j hj => ?_), hpos.sorted hsort, hpos.mem⟩, hb⟩
  unfold InsS
  split
  · exact hS j (by omega)
  · split
    · exact hx
    · exact hS (j - 1) (by omega)

set_option maxHeartbeats 1000000 in
set_option maxRecDepth 100000 in
theorem insert18_empty (a : Option Addr) (cap : Nat) (S : Nat → ByteArray) (x : ByteArray) (w : World) (hx : x.size ≤ maxLen) :
    Calls Try.prog 18 #[.slice a 0 cap, .string x] w fun e w' => ∃ v, e = .returned v ∧ Inserted w w' 0 S x v := by
  obtain ⟨i0, hi, hz0, hz1, hz2⟩ := info_parts info9'
  have hpos : InsPos S 0 x 0 := ⟨Nat.le_refl _, fun j hj => absurd hj (by omega), fun h => absurd h (by omega)⟩
  go_enter Try.func18, Try.ntmps18
  go_wp2
  refine wp_loop_rounds 1 ?_
  rw [rounds_succ]
  go_wp2_with (first
    | (at_make; refine wpList_make_row _ rfl _ _ 22 rfl 9 i0 _ Try.underlying22 hi hz0 hz1 rfl _ _ _ _ 1 rfl rfl rfl rfl (by rw [hz2]; omega) (by unfold maxLen; omega) ?_; intro w1 hrow1 hb1)
    | go_in)
  have hrow2 : Row w1 w.heap.size 9 1 (HeadAt S 0) := hrow1.congr (fun j _ => by simp [HeadAt])
  have hcy := hrow2.cell (j := 0) (by omega)
  have hcf := hrow2.free 0
  refine wp_loop_rounds 1 ?_
  rw [rounds_succ]
  go_wp2
  refine wp_loop_rounds 1 ?_
  rw [rounds_succ]
  go_wp2
  go_ret
  exact ⟨_, rfl, Inserted.mk' (p := 0) (fun i j _ h => absurd h (by omega)) (fun j h => absurd h (by omega)) hx hpos ((hrow2.set (by omega) _).congr (fun j _ => InsAt.start S x 0 j)) (hb1.setCell (Nat.le_refl _) _)⟩

set_option maxHeartbeats 2000000 in
set_option maxRecDepth 100000 in
theorem insert18_some (b off n cap : Nat) (S : Nat → ByteArray) (x : ByteArray) (w : World) (h0 : 0 < n) (hn : n ≤ 65536) (hx : x.size ≤ maxLen) (hs : Strs w (some ⟨b, off, none⟩) b off n S) (hsort : SortedS S n) :
    Calls Try.prog 18 #[.slice (some ⟨b, off, none⟩) n cap, .string x] w fun e w' => ∃ v, e = .returned v ∧ Inserted w w' n S x v := by
  obtain ⟨i0, hi, hz0, hz1, hz2⟩ := info_parts info9'
  go_enter Try.func18, Try.ntmps18
  go_wp2
  go_loop [5] (fun z => ∃ p : Nat, p ≤ n ∧ Hid (∀ j, j < p → sLt (S j) x) ∧ z = .int .i64 p) (fun z => n - (intOf z).toNat)
  case atStart => exact ⟨0, Nat.zero_le _, fun j hj => absurd hj (by omega), rfl⟩
  case round =>
    obtain ⟨p, hp, hbel, rfl⟩ := hrel
    by_cases hgo : p < n ∧ sLt (S p) x
    · obtain ⟨hpn, hlt⟩ := hgo
      have hcx := hs.cell p hpn
      have hb : Op.bytesLess (S p).toList x.toList = true := hlt
      have HL : Hid (sLt (S p) x) := hlt
      clear hlt
      go_wp2
      go_round
      case rel =>
        refine ⟨p + 1, by omega, fun j hj => ?_, by go_num⟩
        by_cases e : j = p
        · subst e; exact HL.out
        · exact hbel.out j (by omega)
      case measure => simp [intOf]; omega
    · have hpos : InsPos S n x p := ⟨hp, hbel.out, fun h1 h2 => hgo ⟨h1, h2⟩⟩
      have hcase : ¬ p < n ∨ (p < n ∧ Op.bytesLess (S p).toList x.toList = false ∧ w.cell? ⟨b, off + p, none⟩ = some (.string (S p))) := by
        by_cases h1 : p < n
        · exact .inr ⟨h1, sLt_false.2 (hpos.stop h1), hs.cell p h1⟩
        · exact .inl h1
      clear hgo hbel
      rcases hcase with h1 | ⟨h1, h2, h3⟩
      all_goals
        go_wp2_with (first
          | (at_make; refine wpList_make_row _ rfl _ _ 22 rfl 9 i0 _ Try.underlying22 hi hz0 hz1 rfl _ _ _ _ (n + 1) rfl rfl (by omega) (by omega) (by rw [hz2]; omega) (by unfold maxLen; omega) ?_; intro w1 hrow1 hb1)
          | go_in)
        try clear h2
        try clear h3
        clear h1
        go_loopw [7] (fun z wr => ∃ q : Nat, q ≤ p ∧ Row wr w.heap.size 9 (n + 1) (HeadAt S q) ∧ Below w.heap.size w wr ∧ z = .int .i64 q) (fun z _ => p - (intOf z).toNat)
        case atStart => exact ⟨0, Nat.zero_le _, hrow1.congr (fun j _ => by simp [HeadAt]), hb1, rfl⟩
        case round =>
          clear hrow1 hb1
          obtain ⟨q, hq, hrow, hbr, rfl⟩ := hrel
          have hsr := hs.belowSelf hbr
          by_cases hqp : q < p
          · have hcx := hsr.cell q (by omega)
            have hcy := hrow.cell (j := q) (by omega)
            have hcf := hrow.free q
            go_wp2
            go_roundw
            case rel => exact ⟨q + 1, by omega, (hrow.set (by omega) _).congr (fun j _ => HeadAt.step S q j), hbr.setCell (Nat.le_refl _) _, by go_num⟩
            case measure => simp [intOf]; omega
          · obtain rfl : q = p := by omega
            have hcy := hrow.cell (j := q) (by omega)
            have hcf := hrow.free q
            have hrow5 := (hrow.set (show q < n + 1 by omega) (.string x)).congr (fun j _ => InsAt.start S x q j)
            have hb5 := hbr.setCell (p := ⟨w.heap.size, q, none⟩) (Nat.le_refl _) (.string x)
            go_wp2
            go_loopw [8] (fun z wr => ∃ t : Nat, q ≤ t ∧ t ≤ n ∧ Row wr w.heap.size 9 (n + 1) (InsAt S x q t) ∧ Below w.heap.size w wr ∧ z = .int .i64 t) (fun z _ => n - (intOf z).toNat)
            case atStart => exact ⟨q, Nat.le_refl _, hp, hrow5, hb5, rfl⟩
            case round =>
              clear hrow5 hb5 hcy hcf hrow hbr hsr
              obtain ⟨t, hqt, htn, hrow, hbr, rfl⟩ := hrel
              have hsr := hs.belowSelf hbr
              by_cases htn2 : t < n
              · have hcx := hsr.cell t (by omega)
                have hcy := hrow.cell (j := t + 1) (by omega)
                have hcf := hrow.free (t + 1)
                go_wp2
                go_roundw
                case rel => exact ⟨t + 1, by omega, by omega, (hrow.set (by omega) _).congr (fun j _ => InsAt.step S x q t j hqt), hbr.setCell (Nat.le_refl _) _, by go_num⟩
                case measure => simp [intOf]; omega
              · obtain rfl : t = n := by omega
                go_wp2
                go_ret
                exact ⟨_, rfl, Inserted.mk' hsort hs.size hx hpos hrow hbr⟩

theorem insert18 (a : Option Addr) (b off n cap : Nat) (S : Nat → ByteArray) (x : ByteArray) (w : World) (hn : n ≤ 65536) (hx : x.size ≤ maxLen) (hs : Strs w a b off n S) (hsort : SortedS S n) :
    Calls Try.prog 18 #[.slice a n cap, .string x] w fun e w' => ∃ v, e = .returned v ∧ Inserted w w' n S x v := by
  rcases Nat.eq_zero_or_pos n with h | h
  · subst h; exact insert18_empty a cap S x w hx
  · obtain rfl := hs.addr h
    exact insert18_some b off n cap S x w h hn hx hs hsort
end Go.Proofs.Qxb6617809a
