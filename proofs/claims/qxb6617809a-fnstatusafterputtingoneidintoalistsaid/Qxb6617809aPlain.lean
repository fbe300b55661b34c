namespace Go.Proofs.Qxb6617809a.Plain
variable {α : Type}

/-- What 'repeated' answers over the n items S 0 .. S (n-1): (x, true) with x the item whose second occurrence comes first; else (z, false). -/
def RepIs (z : α) (S : Nat → α) (n : Nat) (x : α) (r : Bool) : Prop :=
  (r = true ∧ ∃ k, k < n ∧ x = S k ∧ (∃ j, j < k ∧ S j = S k) ∧ ∀ k', k' < k → ∀ j, j < k' → S j ≠ S k') ∨
  (r = false ∧ x = z ∧ ∀ k, k < n → ∀ j, j < k → S j ≠ S k)

/-- one answer -/
theorem RepIs.unique {z : α} {S : Nat → α} {n : Nat} {x y : α} {r q : Bool} (h : RepIs z S n x r) (h' : RepIs z S n y q) : x = y ∧ r = q := by
  rcases h with ⟨rfl, k, hk, rfl, ⟨j, hj, e⟩, hmin⟩ | ⟨rfl, rfl, hn⟩
  · rcases h' with ⟨rfl, k2, hk2, rfl, ⟨j2, hj2, e2⟩, hmin2⟩ | ⟨rfl, rfl, hn2⟩
    · rcases Nat.lt_trichotomy k k2 with h | h | h
      · exact absurd e (hmin2 k h j hj)
      · subst h; exact ⟨rfl, rfl⟩
      · exact absurd e2 (hmin k2 h j2 hj2)
    · exact absurd e (hn2 k hk j hj)
  · rcases h' with ⟨rfl, k2, hk2, rfl, ⟨j2, hj2, e2⟩, hmin2⟩ | ⟨rfl, rfl, hn2⟩
    · exact absurd e2 (hn k2 hk2 j2 hj2)
    · exact ⟨rfl, rfl⟩

/-- THE LAW OF THE APPENDED ID, plain. -/
theorem RepIs.appended {z : α} {S T : Nat → α} {n i : Nat} {x y : α} {r q : Bool} (hi : i < n) (hT : ∀ j, j < n → T j = S j) (hTn : T n = S i)
    (h : RepIs z S n x r) (h' : RepIs z T (n + 1) y q) :
    q = true ∧ (r = true → y = x ∧ ∃ j k, j < k ∧ k < n ∧ S j = x ∧ S k = x) ∧ (r = false → x = z ∧ y = S i) := by
  rcases h with ⟨rfl, k, hk, rfl, ⟨j, hj, e⟩, hmin⟩ | ⟨rfl, rfl, hn⟩
  · have h2 : RepIs z T (n + 1) (S k) true := .inl ⟨rfl, k, by omega, (hT k hk).symm, ⟨j, hj, by rw [hT k hk, hT j (by omega)]; exact e⟩,
      fun k' hk' j' hj' => by rw [hT k' (by omega), hT j' (by omega)]; exact hmin k' hk' j' hj'⟩
    obtain ⟨e1, e2⟩ := h'.unique h2
    exact ⟨e2, fun _ => ⟨e1, j, k, hj, hk, e, rfl⟩, fun h => by cases h⟩
  · have h2 : RepIs x T (n + 1) (S i) true := .inl ⟨rfl, n, by omega, hTn.symm, ⟨i, hi, by rw [hTn, hT i hi]⟩,
      fun k' hk' j' hj' => by rw [hT k' (by omega), hT j' (by omega)]; exact hn k' hk' j' hj'⟩
    obtain ⟨e1, e2⟩ := h'.unique h2
    exact ⟨e2, (fun h => by cases h), fun _ => ⟨rfl, e1⟩⟩

/-- THE EARLIEST REPEAT READ OFF A SORTED ORDER OF THE POSITIONS. 'P p': the position that stands at place p; sorted by 'less' (a strict order on items), ties by position; 'cand p': place p is a second one of its run. -/
def Cand (S : Nat → α) (P : Nat → Nat) (p : Nat) : Prop := 1 ≤ p ∧ S (P p) = S (P (p - 1)) ∧ ¬ (2 ≤ p ∧ S (P (p - 2)) = S (P p))

theorem cand_is_repeat {S : Nat → α} {P : Nat → Nat} {lt : α → α → Prop} (irr : ∀ a, ¬ lt a a) {n p : Nat} (hp : p < n)
    (sorted : ∀ p, p + 1 < n → lt (S (P p)) (S (P (p + 1))) ∨ (S (P p) = S (P (p + 1)) ∧ P p < P (p + 1)))
    (hc : Cand S P p) : ∃ j, j < P p ∧ S j = S (P p) := by
  obtain ⟨h1, h2, _⟩ := hc
  rcases sorted (p - 1) (by omega) with h | ⟨_, h⟩
  · rw [show p - 1 + 1 = p by omega] at h; rw [h2] at h; exact absurd h (irr _)
  · rw [show p - 1 + 1 = p by omega] at h; exact ⟨P (p - 1), h, h2.symm⟩

theorem sorted_le {S : Nat → α} {P : Nat → Nat} {lt : α → α → Prop} (tr : ∀ a b c, lt a b → lt b c → lt a c) {n : Nat}
    (sorted : ∀ p, p + 1 < n → lt (S (P p)) (S (P (p + 1))) ∨ (S (P p) = S (P (p + 1)) ∧ P p < P (p + 1))) :
    ∀ d p, p + d + 1 < n → lt (S (P p)) (S (P (p + d + 1))) ∨ (S (P p) = S (P (p + d + 1)) ∧ P p < P (p + d + 1))
  | 0, p, h => sorted p h
  | d + 1, p, h => by
    have ih := sorted_le tr sorted d p (by omega)
    have s := sorted (p + d + 1) (by omega)
    have e : p + (d + 1) + 1 = p + d + 1 + 1 := by omega
    rw [e]
    rcases ih with a | ⟨a, a'⟩
    · rcases s with b | ⟨b, _⟩
      · exact .inl (tr _ _ _ a b)
      · rw [← b]; exact .inl a
    · rcases s with b | ⟨b, b'⟩
      · rw [a]; exact .inl b
      · exact .inr ⟨a.trans b, by omega⟩

theorem sorted_lt {S : Nat → α} {P : Nat → Nat} {lt : α → α → Prop} (tr : ∀ a b c, lt a b → lt b c → lt a c) {n : Nat}
    (sorted : ∀ p, p + 1 < n → lt (S (P p)) (S (P (p + 1))) ∨ (S (P p) = S (P (p + 1)) ∧ P p < P (p + 1))) {p q : Nat} (h : p < q) (hq : q < n) :
    lt (S (P p)) (S (P q)) ∨ (S (P p) = S (P q) ∧ P p < P q) := by
  have := sorted_le tr sorted (q - p - 1) p (by omega)
  rwa [show p + (q - p - 1) + 1 = q by omega] at this

/-- The least repeat stands at a candidate's place. -/
theorem repeat_is_cand {S : Nat → α} {P : Nat → Nat} {lt : α → α → Prop} (irr : ∀ a, ¬ lt a a) (tr : ∀ a b c, lt a b → lt b c → lt a c) {n : Nat}
    (onto : ∀ k, k < n → ∃ p, p < n ∧ P p = k)
    (sorted : ∀ p, p + 1 < n → lt (S (P p)) (S (P (p + 1))) ∨ (S (P p) = S (P (p + 1)) ∧ P p < P (p + 1)))
    {k j : Nat} (hk : k < n) (hj : j < k) (e : S j = S k) (hmin : ∀ k', k' < k → ∀ j, j < k' → S j ≠ S k') : ∃ p, p < n ∧ P p = k ∧ Cand S P p := by
  obtain ⟨p, hp, ep⟩ := onto k hk
  obtain ⟨q, hq, eq⟩ := onto j (by omega)
  have L := fun {p q : Nat} (h : p < q) (hq : q < n) => sorted_lt tr sorted h hq
  have hqp : q < p := by
    rcases Nat.lt_trichotomy q p with h | h | h
    · exact h
    · subst h; omega
    · rcases L h hq with a | ⟨_, a⟩
      · rw [ep, eq, e] at a; exact absurd a (irr _)
      · rw [ep, eq] at a; omega
  -- whatever stands strictly between q and p is an equal item at a position between j and k
  have between : ∀ m, q < m → m < p → False := by
    intro m h1 h2
    have e1 : S (P m) = S k := by
      rcases L h1 (by omega) with a | ⟨a, _⟩
      · rcases L h2 hp with b | ⟨b, _⟩
        · have := tr _ _ _ a b; rw [eq, ep, e] at this; exact absurd this (irr _)
        · rw [b, eq, ep, e] at a; exact absurd a (irr _)
      · rw [← a, eq, e]
    have l1 : j < P m := by
      rcases L h1 (by omega) with a | ⟨_, a⟩
      · rw [e1, eq, e] at a; exact absurd a (irr _)
      · rw [eq] at a; exact a
    have l2 : P m < k := by
      rcases L h2 hp with a | ⟨_, a⟩
      · rw [e1, ep] at a; exact absurd a (irr _)
      · rw [ep] at a; exact a
    exact hmin (P m) l2 j l1 (e.trans e1.symm)
  have hq1 : q = p - 1 := by
    rcases Nat.lt_or_ge q (p - 1) with h | h
    · exact (between (p - 1) h (by omega)).elim
    · omega
  refine ⟨p, hp, ep, by omega, by rw [ep, ← hq1, eq, e], ?_⟩
  rintro ⟨h2, h3⟩
  -- an equal item ahead of j would make j a repeat below k
  have hl : P (p - 2) < j := by
    rcases L (show p - 2 < q by omega) hq with a | ⟨_, a⟩
    · rw [h3, ep, eq, e] at a; exact absurd a (irr _)
    · rw [eq] at a; exact a
  exact hmin j hj (P (p - 2)) hl (by rw [h3, ep, e])

/-- THE LAW OF THE SORTED POSITIONS, plain: 'best' is none where there is no candidate, else the least of the candidates' positions. -/
theorem rep_of_sorted {z : α} {S : Nat → α} {P : Nat → Nat} {lt : α → α → Prop} (irr : ∀ a, ¬ lt a a) (tr : ∀ a b c, lt a b → lt b c → lt a c) {n : Nat}
    (lts : ∀ p, p < n → P p < n) (onto : ∀ k, k < n → ∃ p, p < n ∧ P p = k)
    (sorted : ∀ p, p + 1 < n → lt (S (P p)) (S (P (p + 1))) ∨ (S (P p) = S (P (p + 1)) ∧ P p < P (p + 1)))
    {x : α} {r : Bool}
    (h : (r = false ∧ x = z ∧ ∀ p, p < n → ¬ Cand S P p) ∨ (r = true ∧ ∃ p, p < n ∧ Cand S P p ∧ x = S (P p) ∧ ∀ q, q < n → Cand S P q → P p ≤ P q)) :
    RepIs z S n x r := by
  -- a least repeat below any repeat
  have least : ∀ k, (∃ j, j < k ∧ S j = S k) → ∃ m, m ≤ k ∧ (∃ j, j < m ∧ S j = S m) ∧ ∀ k', k' < m → ∀ j, j < k' → S j ≠ S k' := by
    intro k
    induction k using Nat.strongRecOn with
    | ind k ih =>
      intro hk
      by_cases hx : ∃ k', k' < k ∧ ∃ j, j < k' ∧ S j = S k'
      · obtain ⟨k', hk', hh⟩ := hx
        obtain ⟨m, a, b, c⟩ := ih k' hk' hh
        exact ⟨m, by omega, b, c⟩
      · exact ⟨k, Nat.le_refl _, hk, fun k' hk' j hj e => hx ⟨k', hk', j, hj, e⟩⟩
  rcases h with ⟨rfl, rfl, hno⟩ | ⟨rfl, p, hp, hc, rfl, hmin⟩
  · refine .inr ⟨rfl, rfl, fun k hk j hj e => ?_⟩
    obtain ⟨m, hm, ⟨j', hj', e'⟩, hmm⟩ := least k ⟨j, hj, e⟩
    obtain ⟨p, hp, _, hc⟩ := repeat_is_cand irr tr onto sorted (show m < n by omega) hj' e' hmm
    exact hno p hp hc
  · have hr := cand_is_repeat irr hp sorted hc
    obtain ⟨m, hm, ⟨j', hj', e'⟩, hmm⟩ := least (P p) hr
    have hPn := lts p hp
    obtain ⟨q, hq, eq, hcq⟩ := repeat_is_cand irr tr onto sorted (show m < n by omega) hj' e' hmm
    have := hmin q hq hcq
    have : m = P p := by omega
    subst this
    exact .inl ⟨rfl, P p, hPn, rfl, ⟨j', hj', e'⟩, hmm⟩
end Go.Proofs.Qxb6617809a.Plain
