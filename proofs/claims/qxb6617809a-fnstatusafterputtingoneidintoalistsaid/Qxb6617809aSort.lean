namespace Go.Proofs.Qxb6617809a.Sorting

/-- f with the place i turned to u -/
def put (f : Nat → Nat) (i u : Nat) : Nat → Nat := fun j => if j = i then u else f j
theorem put_same (f : Nat → Nat) (i u : Nat) : put f i u i = u := by simp [put]
theorem put_other (f : Nat → Nat) {i j : Nat} (u : Nat) (h : j ≠ i) : put f i u j = f j := by simp [put, h]

/-- how often v stands among f 0 .. f (n-1) -/
def cnt (f : Nat → Nat) (v : Nat) : Nat → Nat
  | 0 => 0
  | n + 1 => cnt f v n + (if f n = v then 1 else 0)

theorem cnt_congr {f g : Nat → Nat} (v : Nat) : ∀ n, (∀ j, j < n → f j = g j) → cnt f v n = cnt g v n
  | 0, _ => rfl
  | n + 1, h => by rw [cnt, cnt, cnt_congr v n (fun j hj => h j (by omega)), h n (by omega)]

theorem cnt_put (f : Nat → Nat) (v k u : Nat) : cnt (put f k u) v (k + 1) = cnt f v k + (if u = v then 1 else 0) := by
  rw [cnt, put_same, cnt_congr v k (fun j hj => put_other f u (by omega))]

theorem cnt_mono (f : Nat → Nat) (v : Nat) : ∀ {a b : Nat}, a ≤ b → cnt f v a ≤ cnt f v b
  | a, 0, h => by
    obtain rfl : a = 0 := by omega
    exact Nat.le_refl _
  | a, b + 1, h => by
    rcases Nat.lt_or_ge b a with h' | h'
    · obtain rfl : a = b + 1 := by omega
      exact Nat.le_refl _
    · have := cnt_mono f v h'; rw [cnt]; omega

theorem cnt_pos {f : Nat → Nat} {v : Nat} : ∀ {n : Nat}, 0 < cnt f v n → ∃ p, p < n ∧ f p = v
  | 0, h => by simp [cnt] at h
  | n + 1, h => by
    by_cases e : f n = v
    · exact ⟨n, by omega, e⟩
    · rw [cnt, if_neg e] at h
      obtain ⟨p, hp, ep⟩ := cnt_pos (n := n) (by omega)
      exact ⟨p, by omega, ep⟩

theorem cnt_has {f : Nat → Nat} {v n p : Nat} (hp : p < n) (e : f p = v) : cnt f v p + 1 ≤ cnt f v n := by
  have h1 : cnt f v (p + 1) = cnt f v p + 1 := by rw [cnt, if_pos e]
  have h2 := cnt_mono f v (show p + 1 ≤ n by omega)
  omega

/-- each of 0 .. n-1 once, nothing else -/
def Once (f : Nat → Nat) (n : Nat) : Prop := ∀ v, cnt f v n = if v < n then 1 else 0

theorem cnt_id (v : Nat) : ∀ n, cnt (fun j => j) v n = if v < n then 1 else 0
  | 0 => by simp [cnt]
  | n + 1 => by
    rw [cnt, cnt_id v n]
    by_cases h : v < n
    · rw [if_pos h, if_neg (by omega), if_pos (by omega)]
    · by_cases e : n = v
      · rw [if_neg h, if_pos e, if_pos (by omega)]
      · rw [if_neg h, if_neg e, if_neg (by omega)]

theorem once_id (n : Nat) : Once (fun j => j) n := fun v => cnt_id v n

theorem Once.lt {f : Nat → Nat} {n p : Nat} (h : Once f n) (hp : p < n) : f p < n := by
  have := cnt_has (f := f) hp rfl
  rw [h (f p)] at this
  by_cases e : f p < n
  · exact e
  · rw [if_neg e] at this; omega

theorem Once.onto {f : Nat → Nat} {n k : Nat} (h : Once f n) (hk : k < n) : ∃ p, p < n ∧ f p = k := by
  refine cnt_pos ?_
  rw [h k, if_pos hk]; omega

theorem Once.inj {f : Nat → Nat} {n p q : Nat} (h : Once f n) (hpq : p < q) (hq : q < n) : f p ≠ f q := by
  intro e
  have h1 := cnt_has (f := f) (v := f q) hpq e
  have h2 := cnt_has (f := f) (v := f q) hq rfl
  have h3 := h (f q)
  by_cases e2 : f q < n
  · rw [if_pos e2] at h3; omega
  · rw [if_neg e2] at h3; omega

variable {less : Nat → Nat → Bool}

/-- b does not come before a -/
def Le (less : Nat → Nat → Bool) (a b : Nat) : Prop := less b a = false

/-- what is asked of 'less' -/
structure Order (less : Nat → Nat → Bool) : Prop where
  asym : ∀ a b, less a b = true → less b a = false
  trans : ∀ a b c, Le less a b → Le less b c → Le less a c

/-- sorted in runs of w -/
def Runs (less : Nat → Nat → Bool) (f : Nat → Nat) (w n : Nat) : Prop := ∀ m p q, m * w ≤ p → p < q → q < (m + 1) * w → q < n → Le less (f p) (f q)

theorem runs_one (less : Nat → Nat → Bool) (f : Nat → Nat) (n : Nat) : Runs less f 1 n := fun m p q h1 h2 h3 _ => by rw [Nat.mul_one] at h1 h3; omega

/-- one merge under way: P's runs [lo, mid) and [mid, hi) go over into B from lo on; i, j: the heads of what is left; k: B's end. B0: B as it was when the merge began. -/
structure Merge (less : Nat → Nat → Bool) (P B0 : Nat → Nat) (lo mid hi i j k : Nat) (B : Nat → Nat) : Prop where
  l1 : lo ≤ i
  l2 : i ≤ mid
  l3 : mid ≤ j
  l4 : j ≤ hi
  lk : k + mid = i + j
  s1 : ∀ p q, lo ≤ p → p < q → q < mid → Le less (P p) (P q)
  s2 : ∀ p q, mid ≤ p → p < q → q < hi → Le less (P p) (P q)
  done : ∀ p q, lo ≤ p → p < q → q < k → Le less (B p) (B q)
  b1 : ∀ p q, lo ≤ p → p < k → i ≤ q → q < mid → Le less (B p) (P q)
  b2 : ∀ p q, lo ≤ p → p < k → j ≤ q → q < hi → Le less (B p) (P q)
  cn : ∀ v, cnt B v k + cnt P v mid = cnt P v i + cnt P v j
  old : ∀ p, p < lo → B p = B0 p

theorem Merge.takeI {P B0 : Nat → Nat} {lo mid hi i j k : Nat} {B : Nat → Nat} (h : Merge less P B0 lo mid hi i j k B) (hi' : i < mid)
    (hle : ∀ q, j ≤ q → q < hi → Le less (P i) (P q)) : Merge less P B0 lo mid hi (i + 1) j (k + 1) (put B k (P i)) := by
  have e1 := h.l1; have e2 := h.l2; have e3 := h.l3; have e4 := h.l4; have ek := h.lk
  refine ⟨by omega, by omega, h.l3, h.l4, by omega, h.s1, h.s2, ?_, ?_, ?_, ?_, ?_⟩
  · intro p q a b c
    rw [put_other B _ (show p ≠ k by omega)]
    by_cases e : q = k
    · subst e; rw [put_same]; exact h.b1 p i a b (Nat.le_refl _) hi'
    · rw [put_other B _ e]; exact h.done p q a b (by omega)
  · intro p q a b c d
    by_cases e : p = k
    · subst e; rw [put_same]; exact h.s1 i q e1 (by omega) d
    · rw [put_other B _ e]; exact h.b1 p q a (by omega) (by omega) d
  · intro p q a b c d
    by_cases e : p = k
    · subst e; rw [put_same]; exact hle q c d
    · rw [put_other B _ e]; exact h.b2 p q a (by omega) c d
  · intro v
    have := h.cn v
    rw [cnt_put]
    have e5 : cnt P v (i + 1) = cnt P v i + (if P i = v then 1 else 0) := rfl
    omega
  · intro p hp
    rw [put_other B _ (show p ≠ k by omega)]; exact h.old p hp

theorem Merge.takeJ {P B0 : Nat → Nat} {lo mid hi i j k : Nat} {B : Nat → Nat} (h : Merge less P B0 lo mid hi i j k B) (hj' : j < hi)
    (hle : ∀ q, i ≤ q → q < mid → Le less (P j) (P q)) : Merge less P B0 lo mid hi i (j + 1) (k + 1) (put B k (P j)) := by
  have e1 := h.l1; have e2 := h.l2; have e3 := h.l3; have e4 := h.l4; have ek := h.lk
  refine ⟨h.l1, h.l2, by omega, by omega, by omega, h.s1, h.s2, ?_, ?_, ?_, ?_, ?_⟩
  · intro p q a b c
    rw [put_other B _ (show p ≠ k by omega)]
    by_cases e : q = k
    · subst e; rw [put_same]; exact h.b2 p j a b (Nat.le_refl _) hj'
    · rw [put_other B _ e]; exact h.done p q a b (by omega)
  · intro p q a b c d
    by_cases e : p = k
    · subst e; rw [put_same]; exact hle q c d
    · rw [put_other B _ e]; exact h.b1 p q a (by omega) c d
  · intro p q a b c d
    by_cases e : p = k
    · subst e; rw [put_same]; exact h.s2 j q e3 (by omega) d
    · rw [put_other B _ e]; exact h.b2 p q a (by omega) (by omega) d
  · intro v
    have := h.cn v
    rw [cnt_put]
    have e5 : cnt P v (j + 1) = cnt P v j + (if P j = v then 1 else 0) := rfl
    omega
  · intro p hp
    rw [put_other B _ (show p ≠ k by omega)]; exact h.old p hp

/-- the test says yes: pos[j] goes first -/
theorem Merge.yes (O : Order less) {P B0 : Nat → Nat} {lo mid hi i j k : Nat} {B : Nat → Nat} (h : Merge less P B0 lo mid hi i j k B) (hj' : j < hi) (ht : less (P j) (P i) = true) :
    Merge less P B0 lo mid hi i (j + 1) (k + 1) (put B k (P j)) := by
  refine h.takeJ hj' (fun q a b => ?_)
  have h1 : Le less (P j) (P i) := O.asym _ _ ht
  by_cases e : q = i
  · subst e; exact h1
  · exact O.trans _ _ _ h1 (h.s1 i q h.l1 (by omega) b)
/-- the test says no: pos[i] goes first -/
theorem Merge.no (O : Order less) {P B0 : Nat → Nat} {lo mid hi i j k : Nat} {B : Nat → Nat} (h : Merge less P B0 lo mid hi i j k B) (hi' : i < mid) (ht : less (P j) (P i) = false) :
    Merge less P B0 lo mid hi (i + 1) j (k + 1) (put B k (P i)) := by
  refine h.takeI hi' (fun q a b => ?_)
  have h1 : Le less (P i) (P j) := ht
  by_cases e : q = j
  · subst e; exact h1
  · exact O.trans _ _ _ h1 (h.s2 j q h.l3 (by omega) b)

/-- what the runs up to lo have become in B -/
structure Pass (less : Nat → Nat → Bool) (P : Nat → Nat) (w n m lo : Nat) (B : Nat → Nat) : Prop where
  at_ : lo = m * (2 * w) ∨ lo = n
  le : lo ≤ n
  le2 : lo ≤ m * (2 * w)
  runs : Runs less B (2 * w) lo
  cn : ∀ v, cnt B v lo = cnt P v lo

theorem Pass.zero (less : Nat → Nat → Bool) (P : Nat → Nat) (w n : Nat) (B : Nat → Nat) : Pass less P w n 0 0 B :=
  ⟨.inl (by simp), Nat.zero_le _, Nat.zero_le _, fun _ _ _ _ _ _ h => absurd h (by omega), fun _ => rfl⟩

/-- the next merge begins -/
theorem Pass.begin {P : Nat → Nat} {w n m lo : Nat} {B : Nat → Nat} (h : Pass less P w n m lo B) (hlo : lo < n) (hr : Runs less P w n) {mid hi : Nat} (h1 : lo ≤ mid) (h2 : mid ≤ hi) (h3 : hi ≤ n) (h4 : mid ≤ lo + w) (h5 : hi ≤ lo + w + w) (h6 : mid < hi → mid = lo + w) :
    Merge less P B lo mid hi lo mid lo B := by
  have elo : lo = m * (2 * w) := by rcases h.at_ with e | e; exact e; omega
  have e2 : (2 * m) * w = lo := by rw [elo, Nat.mul_comm 2 m, Nat.mul_assoc]
  have e3 : (2 * m + 1) * w = lo + w := by rw [Nat.add_mul, e2, Nat.one_mul]
  have e4 : (2 * m + 1 + 1) * w = lo + w + w := by rw [Nat.add_mul, e3, Nat.one_mul]
  refine ⟨Nat.le_refl _, h1, Nat.le_refl _, h2, by omega, ?_, ?_, fun p q a b c => absurd c (by omega), fun p q a b => absurd b (by omega), fun p q a b => absurd b (by omega), fun v => by rw [h.cn v], fun _ _ => rfl⟩
  · intro p q a b c
    exact hr (2 * m) p q (by omega) b (by omega) (by omega)
  · intro p q a b c
    have := h6 (by omega)
    exact hr (2 * m + 1) p q (by omega) b (by omega) (by omega)

/-- the merge is done: the next run -/
theorem Pass.next {P : Nat → Nat} {w n m lo : Nat} {B0 B : Nat → Nat} (h : Pass less P w n m lo B0) (hlo : lo < n) {mid hi : Nat} (hM : Merge less P B0 lo mid hi mid hi hi B) (h3 : hi ≤ n) (h5 : hi = lo + w + w ∨ (hi = n ∧ n ≤ lo + w + w)) :
    Pass less P w n (m + 1) hi B := by
  have elo : lo = m * (2 * w) := by rcases h.at_ with e | e; exact e; omega
  have e1 : (m + 1) * (2 * w) = lo + w + w := by rw [Nat.add_mul, ← elo, Nat.one_mul]; omega
  have l12 := hM.l1; have l34 := hM.l3
  refine ⟨by omega, h3, by omega, ?_, fun v => ?_⟩
  · intro m' p q a b c d
    rcases Nat.lt_or_ge q lo with hq | hq
    · rw [hM.old p (by omega), hM.old q hq]; exact h.runs m' p q a b c hq
    · -- the same run
      have hm1 : m ≤ m' := by
        have : m * (2 * w) < (m' + 1) * (2 * w) := by omega
        have := Nat.lt_of_mul_lt_mul_right this
        omega
      have hp : lo ≤ p := by
        have := Nat.mul_le_mul_right (2 * w) hm1
        omega
      exact hM.done p q hp b d
  · have := hM.cn v; omega

/-- a pass is done -/
theorem Pass.done {P : Nat → Nat} {w n m : Nat} {B : Nat → Nat} (h : Pass less P w n m n B) (ho : Once P n) : Runs less B (2 * w) n ∧ Once B n :=
  ⟨h.runs, fun v => by rw [h.cn v]; exact ho v⟩

/-- in the end: sorted -/
theorem Runs.sorted {f : Nat → Nat} {w n : Nat} (h : Runs less f w n) (hn : n ≤ w) {p q : Nat} (hpq : p < q) (hq : q < n) : Le less (f p) (f q) :=
  h 0 p q (by omega) hpq (by omega) hq

theorem Runs.congr {f g : Nat → Nat} {w n : Nat} (h : Runs less f w n) (e : ∀ j, j < n → g j = f j) : Runs less g w n := by
  intro m p q a b c d
  rw [e p (by omega), e q d]; exact h m p q a b c d
theorem Once.congr {f g : Nat → Nat} {n : Nat} (h : Once f n) (e : ∀ j, j < n → g j = f j) : Once g n := fun v => by
  rw [cnt_congr v n e]; exact h v
end Go.Proofs.Qxb6617809a.Sorting
