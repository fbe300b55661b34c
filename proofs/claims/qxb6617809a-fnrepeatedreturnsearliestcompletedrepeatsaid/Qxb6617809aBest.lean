import Derived.Test.Qxb6617809aPlain
import Derived.Test.Qxb6617809aOrd
namespace Go.Proofs.Qxb6617809a
open Plain

/-- 'best' behind the places 1 .. p-1 -/
def Best (S : Nat → ByteArray) (P : Nat → Nat) (p : Nat) (z : Int) : Prop :=
  (z = -1 ∧ ∀ q, q < p → ¬ Cand S P q) ∨ ∃ q, q < p ∧ Cand S P q ∧ z = (P q : Int) ∧ ∀ q', q' < p → Cand S P q' → P q ≤ P q'

theorem Best.one (S : Nat → ByteArray) (P : Nat → Nat) : Best S P 1 (-1) := .inl ⟨rfl, fun q hq h => by have := h.1; omega⟩
theorem Best.range {S : Nat → ByteArray} {P : Nat → Nat} {p n : Nat} {z : Int} (h : Best S P p z) (hp : p ≤ n ∨ p = 1) (hP : ∀ q, q < n → P q < n) : -1 ≤ z ∧ z < n + 1 := by
  rcases h with ⟨rfl, _⟩ | ⟨q, hq, hc, rfl, _⟩
  · omega
  · have h1 := hc.1
    have := hP q (by omega)
    omega
theorem Best.skip {S : Nat → ByteArray} {P : Nat → Nat} {p : Nat} {z : Int} (h : Best S P p z) (hc : ¬ Cand S P p) : Best S P (p + 1) z := by
  have key : ∀ q, q < p + 1 → Cand S P q → q < p := fun q hq h' => by
    rcases Nat.lt_or_ge q p with h2 | h2
    · exact h2
    · obtain rfl : q = p := by omega
      exact absurd h' hc
  rcases h with ⟨rfl, h⟩ | ⟨q, hq, hcq, rfl, hm⟩
  · exact .inl ⟨rfl, fun q hq h' => h q (key q hq h') h'⟩
  · exact .inr ⟨q, by omega, hcq, rfl, fun q' hq' h' => hm q' (key q' hq' h') h'⟩
theorem Best.take {S : Nat → ByteArray} {P : Nat → Nat} {p : Nat} {z : Int} (h : Best S P p z) (hc : Cand S P p) (hz : z < 0 ∨ (P p : Int) < z) : Best S P (p + 1) (P p) := by
  refine .inr ⟨p, by omega, hc, rfl, fun q' hq' h' => ?_⟩
  rcases Nat.lt_or_ge q' p with h2 | h2
  · rcases h with ⟨rfl, h⟩ | ⟨q, hq, hcq, rfl, hm⟩
    · exact absurd h' (h q' h2)
    · have := hm q' h2 h'; omega
  · obtain rfl : q' = p := by omega
    exact Nat.le_refl _
theorem Best.keep {S : Nat → ByteArray} {P : Nat → Nat} {p : Nat} {z : Int} (h : Best S P p z) (h0 : 0 ≤ z) (hz : z ≤ (P p : Int)) : Best S P (p + 1) z := by
  rcases h with ⟨rfl, h⟩ | ⟨q, hq, hcq, rfl, hm⟩
  · omega
  · refine .inr ⟨q, by omega, hcq, rfl, fun q' hq' h' => ?_⟩
    rcases Nat.lt_or_ge q' p with h2 | h2
    · exact hm q' h2 h'
    · obtain rfl : q' = p := by omega
      omega

/-- sorted by 'lessB', each position once: the strict form that the plain law asks -/
theorem strictly {S : Nat → ByteArray} {P : Nat → Nat} {n : Nat} (ho : Sorting.Once P n) (hs : ∀ p q, p < q → q < n → Sorting.Le (lessB S) (P p) (P q)) :
    ∀ p, p + 1 < n → sLt (S (P p)) (S (P (p + 1))) ∨ (S (P p) = S (P (p + 1)) ∧ P p < P (p + 1)) := by
  intro p hp
  have h1 := hs p (p + 1) (by omega) hp
  have h2 := ho.inj (show p < p + 1 by omega) hp
  rcases lessB_total S _ _ h2 with h | h
  · exact (lessB_iff S _ _).1 h
  · unfold Sorting.Le at h1; rw [h1] at h; cases h

theorem Best.rep {S : Nat → ByteArray} {P : Nat → Nat} {n : Nat} (ho : Sorting.Once P n) (hs : ∀ p q, p < q → q < n → Sorting.Le (lessB S) (P p) (P q)) {p : Nat} {z : Int} (h : Best S P p z) (hp : p = n ∨ (p = 1 ∧ n = 0)) :
    (z = -1 ∧ RepIs ByteArray.empty S n ByteArray.empty false) ∨ ∃ k : Nat, z = k ∧ k < n ∧ RepIs ByteArray.empty S n (S k) true := by
  have L : ∀ {x r}, _ → RepIs ByteArray.empty S n x r := fun {x r} h => rep_of_sorted (z := ByteArray.empty) (S := S) (P := P) (x := x) (r := r) sLt_irrefl sLt_trans (fun p hp => ho.lt hp) (fun k hk => ho.onto hk) (strictly ho hs) h
  rcases h with ⟨rfl, h⟩ | ⟨q, hq, hcq, rfl, hm⟩
  · exact .inl ⟨rfl, L (.inl ⟨rfl, rfl, fun q hq => h q (by omega)⟩)⟩
  · have h1 := hcq.1
    exact .inr ⟨P q, rfl, ho.lt (by omega), L (.inr ⟨rfl, q, by omega, hcq, rfl, fun q' hq' h' => hm q' (by omega) h'⟩)⟩
end Go.Proofs.Qxb6617809a
