import Derived.Test.Qxb6617809aKit
import Derived.Test.Qxb6617809aSort
import Derived.Lib.SlicesS
namespace Go.Proofs.Qxb6617809a
open Go.RowKit

/-! The order of strings by bytes: strict, total. -/
theorem bl_irrefl : ∀ x : List UInt8, Op.bytesLess x x = false
  | [] => rfl
  | a :: x => by simp [Op.bytesLess, bl_irrefl x]

theorem bl_trans : ∀ x y z : List UInt8, Op.bytesLess x y = true → Op.bytesLess y z = true → Op.bytesLess x z = true
  | [], [], z, h, _ => by simp [Op.bytesLess] at h
  | [], _ :: _, [], _, h => by simp [Op.bytesLess] at h
  | [], _ :: _, _ :: _, _, _ => by simp [Op.bytesLess]
  | _ :: _, [], _, h, _ => by simp [Op.bytesLess] at h
  | _ :: _, _ :: _, [], _, h => by simp [Op.bytesLess] at h
  | a :: x, b :: y, c :: z, h1, h2 => by
    simp only [Op.bytesLess, Bool.or_eq_true, decide_eq_true_eq, Bool.and_eq_true, beq_iff_eq] at h1 h2 ⊢
    rcases h1 with h1 | ⟨rfl, h1⟩
    · rcases h2 with h2 | ⟨rfl, h2⟩
      · exact .inl (UInt8.lt_trans h1 h2)
      · exact .inl h1
    · rcases h2 with h2 | ⟨rfl, h2⟩
      · exact .inl h2
      · exact .inr ⟨rfl, bl_trans x y z h1 h2⟩

theorem bl_total : ∀ x y : List UInt8, x ≠ y → Op.bytesLess x y = true ∨ Op.bytesLess y x = true
  | [], [], h => absurd rfl h
  | [], _ :: _, _ => by simp [Op.bytesLess]
  | _ :: _, [], _ => by simp [Op.bytesLess]
  | a :: x, b :: y, h => by
    simp only [Op.bytesLess, Bool.or_eq_true, decide_eq_true_eq, Bool.and_eq_true, beq_iff_eq]
    rcases UInt8.lt_or_le a b with h1 | h1
    · exact .inl (.inl h1)
    · by_cases e : a = b
      · subst e
        have hx : x ≠ y := fun e => h (by rw [e])
        rcases bl_total x y hx with h2 | h2
        · exact .inl (.inr ⟨rfl, h2⟩)
        · exact .inr (.inr ⟨rfl, h2⟩)
      · exact .inr (.inl (UInt8.lt_of_le_of_ne h1 (fun e' => e e'.symm)))

/-- x comes before y -/
def sLt (x y : ByteArray) : Prop := Op.bytesLess x.toList y.toList = true
theorem sLt_irrefl (x : ByteArray) : ¬ sLt x x := by simp [sLt, bl_irrefl]
theorem sLt_trans (x y z : ByteArray) : sLt x y → sLt y z → sLt x z := bl_trans _ _ _
theorem toList_inj {x y : ByteArray} (h : x.toList = y.toList) : x = y := (Lib.bytes_beq_iff x y).1 (by simp [h])
theorem sLt_total (x y : ByteArray) (h : x ≠ y) : sLt x y ∨ sLt y x := bl_total _ _ (fun e => h (toList_inj e))
theorem sLt_asym {x y : ByteArray} (h : sLt x y) : ¬ sLt y x := fun h' => sLt_irrefl _ (sLt_trans _ _ _ h h')

/-- the laws' own order of positions: by id, then by position -/
def lessB (S : Nat → ByteArray) (a b : Nat) : Bool := if S a = S b then decide (a < b) else Op.bytesLess (S a).toList (S b).toList

theorem lessB_iff (S : Nat → ByteArray) (a b : Nat) : lessB S a b = true ↔ sLt (S a) (S b) ∨ (S a = S b ∧ a < b) := by
  unfold lessB
  by_cases e : S a = S b
  · rw [if_pos e]
    simp only [decide_eq_true_eq]
    exact ⟨fun h => .inr ⟨e, h⟩, fun h => by rcases h with h | h; exact absurd h (by rw [e]; exact sLt_irrefl _); exact h.2⟩
  · rw [if_neg e]
    exact ⟨fun h => .inl h, fun h => by rcases h with h | h; exact h; exact absurd h.1 e⟩

theorem lessB_trans (S : Nat → ByteArray) (a b c : Nat) (h1 : lessB S a b = true) (h2 : lessB S b c = true) : lessB S a c = true := by
  rw [lessB_iff] at *
  rcases h1 with h1 | ⟨e1, h1⟩
  · rcases h2 with h2 | ⟨e2, h2⟩
    · exact .inl (sLt_trans _ _ _ h1 h2)
    · rw [← e2]; exact .inl h1
  · rcases h2 with h2 | ⟨e2, h2⟩
    · rw [e1]; exact .inl h2
    · exact .inr ⟨e1.trans e2, by omega⟩
theorem lessB_irrefl (S : Nat → ByteArray) (a : Nat) : lessB S a a = false := by simp [lessB]
theorem lessB_total (S : Nat → ByteArray) (a b : Nat) (h : a ≠ b) : lessB S a b = true ∨ lessB S b a = true := by
  rw [lessB_iff, lessB_iff]
  by_cases e : S a = S b
  · rcases Nat.lt_or_gt_of_ne h with h | h
    · exact .inl (.inr ⟨e, h⟩)
    · exact .inr (.inr ⟨e.symm, h⟩)
  · rcases sLt_total _ _ e with h | h
    · exact .inl (.inl h)
    · exact .inr (.inl h)

theorem lessB_order (S : Nat → ByteArray) : Sorting.Order (lessB S) := by
  refine ⟨fun a b h => ?_, fun a b c h1 h2 => ?_⟩
  · cases hb : lessB S b a
    · rfl
    · have := lessB_trans S a b a h hb; rw [lessB_irrefl] at this; cases this
  · unfold Sorting.Le at *
    cases hb : lessB S c a
    · rfl
    · by_cases e : a = b
      · subst e; rw [hb] at h2; cases h2
      · rcases lessB_total S a b e with h | h
        · have := lessB_trans S c a b hb h; rw [h2] at this; cases this
        · rw [h1] at h; cases h
end Go.Proofs.Qxb6617809a
