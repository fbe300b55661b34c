import Derived.Test.Qxb6616595aW5
namespace Go.Proofs.Qxb6616595a
open Go.RowKit

/-! ### PutUint32, PutUint64 into the buffer -/
theorem Owns.cellAt {w : World} {B g cap : Nat} {L : List Int} (h : Owns w B (.slice (some ⟨g, 0, none⟩) L.length cap) L) {j : Nat} (hj : j < L.length) : w.cell? ⟨g, j, none⟩ = some (.int .u8 (L.getD j 0)) := by
  rw [World.ownsRow.cellAt h j (by omega)]
  simp [cellsOf, hj]
theorem Owns.frozenAt {w : World} {B g cap : Nat} {L : List Int} (h : Owns w B (.slice (some ⟨g, 0, none⟩) L.length cap) L) (j : Nat) : w.frozen? ⟨g, j, none⟩ = false := World.ownsRow.frozenAt h j
theorem Owns.stored {w : World} {B g cap : Nat} {L : List Int} (h : Owns w B (.slice (some ⟨g, 0, none⟩) L.length cap) L) (j : Nat) (b : Int) : Owns (w.setCell ⟨g, j, none⟩ (.int .u8 b)) B (.slice (some ⟨g, 0, none⟩) (L.set j b).length cap) (L.set j b) := by
  have h1 := (World.ownsRow.stored h j (.int .u8 b)).1
  unfold Owns
  rw [List.length_set]
  have e : cellsOf (L.set j b) = (cellsOf L).set j (.int .u8 b) := by simp [cellsOf, List.map_set]
  rw [e]
  exact h1

theorem Keeps.refl (w : World) (row : Option Nat) : Keeps w w row := ⟨rfl, rfl, rfl, Nat.le_refl _, fun _ _ _ => rfl⟩
theorem Keeps.alloc {w w' : World} {row : Option Nat} (h : Keeps w w' row) (o : Obj) : Keeps w (w'.alloc o) row :=
  ⟨h.os, h.tape, h.output, by have := h.size; simp; omega, fun k hk hr => (Below.heap_alloc _ _ _ (Nat.lt_of_lt_of_le hk h.size)).trans (h.block k hk hr)⟩
theorem Keeps.setCell {w w' : World} {g : Nat} (h : Keeps w w' (some g)) (j : Nat) (v : Value) : Keeps w (w'.setCell ⟨g, j, none⟩ v) (some g) :=
  ⟨h.os, h.tape, h.output, by have := h.size; simpa [World.setCell] using this, fun k hk hr => (Below.heap_setCell w' ⟨g, j, none⟩ v k (fun e => hr (by rw [e]))).trans (h.block k hk hr)⟩

def set4 (L : List Int) (o : Nat) (u : Int) : List Int := (((L.set o (u / 16777216)).set (o + 1) (u / 65536 % 256)).set (o + 2) (u / 256 % 256)).set (o + 3) (u % 256)
def set8 (L : List Int) (o : Nat) (u : Int) : List Int := (((((((L.set o (u / 72057594037927936)).set (o + 1) (u / 281474976710656 % 256)).set (o + 2) (u / 1099511627776 % 256)).set (o + 3) (u / 4294967296 % 256)).set (o + 4) (u / 16777216 % 256)).set (o + 5) (u / 65536 % 256)).set (o + 6) (u / 256 % 256)).set (o + 7) (u % 256)
theorem set4_length (L : List Int) (o : Nat) (u : Int) : (set4 L o u).length = L.length := by simp [set4]
theorem set8_length (L : List Int) (o : Nat) (u : Int) : (set8 L o u).length = L.length := by simp [set8]

set_option maxHeartbeats 2000000 in
set_option maxRecDepth 100000 in
theorem put20 (B g o n c cap : Nat) (L : List Int) (u : Int) (w : World) (h0 : 0 ≤ u) (h1 : u < 4294967296) (h : Owns w B (.slice (some ⟨g, 0, none⟩) L.length cap) L) (hn : 4 ≤ n) (ho : o + 4 ≤ L.length) :
    Calls Try.prog 20 #[.agg #[], .slice (some ⟨g, o, none⟩) n c, .int .u32 u] w fun e w' => e = .returned (.tuple #[]) ∧ Owns w' B (.slice (some ⟨g, 0, none⟩) (set4 L o u).length cap) (set4 L o u) ∧ Keeps w w' (some g) := by
  have c0 := h.cellAt (j := o) (by omega)
  have c1 := h.cellAt (j := o + 1) (by omega)
  have c2 := h.cellAt (j := o + 2) (by omega)
  have c3 := h.cellAt (j := o + 3) (by omega)
  have f0 := h.frozenAt o
  have f1 := h.frozenAt (o + 1)
  have f2 := h.frozenAt (o + 2)
  have f3 := h.frozenAt (o + 3)
  have hlt : g < w.heap.size := (World.ownsRow.lt h g rfl).2
  go_enter Try.func20, Try.ntmps20
  go_wp2
  go_end0
  refine ⟨rfl, ?_, ?_⟩
  · have hh := ((((h.stored o (u / 16777216)).stored (o + 1) (u / 65536 % 256)).stored (o + 2) (u / 256 % 256)).stored (o + 3) (u % 256)).alloc (.cells #[] 41)
    exact hh
  · exact (((((Keeps.refl _ _).setCell _ _).setCell _ _).setCell _ _).setCell _ _).alloc _

set_option maxHeartbeats 4000000 in
set_option maxRecDepth 100000 in
theorem put21 (B g o n c cap : Nat) (L : List Int) (u : Int) (w : World) (h0 : 0 ≤ u) (h1 : u < 18446744073709551616) (h : Owns w B (.slice (some ⟨g, 0, none⟩) L.length cap) L) (hn : 8 ≤ n) (ho : o + 8 ≤ L.length) :
    Calls Try.prog 21 #[.agg #[], .slice (some ⟨g, o, none⟩) n c, .int .u64 u] w fun e w' => e = .returned (.tuple #[]) ∧ Owns w' B (.slice (some ⟨g, 0, none⟩) (set8 L o u).length cap) (set8 L o u) ∧ Keeps w w' (some g) := by
  have c0 := h.cellAt (j := o) (by omega)
  have f0 := h.frozenAt (o)
  have c1 := h.cellAt (j := o + 1) (by omega)
  have f1 := h.frozenAt (o + 1)
  have c2 := h.cellAt (j := o + 2) (by omega)
  have f2 := h.frozenAt (o + 2)
  have c3 := h.cellAt (j := o + 3) (by omega)
  have f3 := h.frozenAt (o + 3)
  have c4 := h.cellAt (j := o + 4) (by omega)
  have f4 := h.frozenAt (o + 4)
  have c5 := h.cellAt (j := o + 5) (by omega)
  have f5 := h.frozenAt (o + 5)
  have c6 := h.cellAt (j := o + 6) (by omega)
  have f6 := h.frozenAt (o + 6)
  have c7 := h.cellAt (j := o + 7) (by omega)
  have f7 := h.frozenAt (o + 7)
  have hlt : g < w.heap.size := (World.ownsRow.lt h g rfl).2
  go_enter Try.func21, Try.ntmps21
  go_wp2
  go_end0
  refine ⟨rfl, ?_, ?_⟩
  · have hh := ((((((((h.stored o (u / 72057594037927936)).stored (o + 1) (u / 281474976710656 % 256)).stored (o + 2) (u / 1099511627776 % 256)).stored (o + 3) (u / 4294967296 % 256)).stored (o + 4) (u / 16777216 % 256)).stored (o + 5) (u / 65536 % 256)).stored (o + 6) (u / 256 % 256)).stored (o + 7) (u % 256)).alloc (.cells #[] 41)
    exact hh
  · exact (((((((((Keeps.refl _ _).setCell _ _).setCell _ _).setCell _ _).setCell _ _).setCell _ _).setCell _ _).setCell _ _).setCell _ _).alloc _
end Go.Proofs.Qxb6616595a
