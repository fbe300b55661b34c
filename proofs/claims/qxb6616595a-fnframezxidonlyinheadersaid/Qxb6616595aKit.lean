import Derived.WalkKit
import Derived.WalkSpells
import Derived.WalkLawsBesides
namespace Go.Proofs.Qxb6616595a
open Go.RowKit

/-- The ending is a bool, whichever. -/
def SomeBool (e : Ending) : Prop := ∃ r, e = .returned (.bool r)
theorem SomeBool.mk (r : Bool) : SomeBool (.returned (.bool r)) := ⟨r, rfl⟩

/-- A row of n one-cell elements that the call itself made: block g, unfrozen, f 0 .. f (n-1). -/
structure Row (w : World) (g : Nat) (e : TypeId) (n : Nat) (f : Nat → Value) : Prop where
  blk : ∃ cur : Array Value, w.heap[g]? = some (.cells cur e (0, 0)) ∧ cur.size = n ∧ ∀ j, j < n → cur[j]? = some (f j)

section
variable {w : World} {g : Nat} {e : TypeId} {n : Nat} {f : Nat → Value}

theorem Row.cell (h : Row w g e n f) {j : Nat} (hj : j < n) : w.cell? ⟨g, j, none⟩ = some (f j) := by
  obtain ⟨cur, h1, _, h3⟩ := h.blk
  rw [cell_of_row w g j cur e (0, 0) h1]; exact h3 j hj

theorem Row.free (h : Row w g e n f) (j : Nat) : w.frozen? ⟨g, j, none⟩ = false := by
  obtain ⟨cur, h1, _, _⟩ := h.blk
  exact frozen_of_row w g j cur e h1

theorem Row.lt (h : Row w g e n f) : g < w.heap.size := by
  obtain ⟨cur, h1, _, _⟩ := h.blk
  exact lt_of_block h1

theorem Row.congr (h : Row w g e n f) {f' : Nat → Value} (hf : ∀ j, j < n → f' j = f j) : Row w g e n f' := by
  obtain ⟨cur, h1, h2, h3⟩ := h.blk
  exact ⟨cur, h1, h2, fun j hj => by rw [hf j hj]; exact h3 j hj⟩

theorem Row.ofBlock {w' : World} (h : Row w g e n f) (hb : w'.heap[g]? = w.heap[g]?) : Row w' g e n f := by
  obtain ⟨cur, h1, h2, h3⟩ := h.blk
  exact ⟨cur, hb.trans h1, h2, h3⟩

theorem Row.below {w' : World} {B : Nat} (h : Row w g e n f) (hb : Below B w w') (hg : g < B) : Row w' g e n f := h.ofBlock (hb.block g hg)

theorem Row.alloc (h : Row w g e n f) (o : Obj) : Row (w.alloc o) g e n f := h.ofBlock (Below.heap_alloc w o g h.lt)

theorem Row.other (h : Row w g e n f) {a : Addr} (ha : g ≠ a.block) (u : Value) : Row (w.setCell a u) g e n f := h.ofBlock (Below.heap_setCell w a u g ha)

/-- f with the place i turned to u -/
def upd {β : Type} (f : Nat → β) (i : Nat) (u : β) : Nat → β := fun j => if j = i then u else f j
theorem upd_same {β : Type} (f : Nat → β) (i : Nat) (u : β) : upd f i u i = u := by simp [upd]
theorem upd_other {β : Type} (f : Nat → β) {i j : Nat} (u : β) (h : j ≠ i) : upd f i u j = f j := by simp [upd, h]

theorem Row.set (h : Row w g e n f) {i : Nat} (hi : i < n) (u : Value) : Row (w.setCell ⟨g, i, none⟩ u) g e n (upd f i u) := by
  obtain ⟨cur, h1, h2, h3⟩ := h.blk
  refine ⟨cur.setIfInBounds i u, heap_setCell_same w g i cur e u h1, by simpa using h2, fun j hj => ?_⟩
  rw [Array.getElem?_setIfInBounds]
  by_cases hij : i = j
  · subst hij; simp [upd, h2, hi]
  · rw [if_neg hij, upd_other _ _ (fun e => hij e.symm)]; exact h3 j hj

/-- behind 'make([]T, n)' -/
theorem Row.made {base cap : Nat} {z : Value} (h : w.ownsRow base e 1 (.slice (some ⟨g, 0, none⟩) n cap) n (madeCells #[z] (n * 1)).toList) (hc : cap = n) : Row w g e n (fun _ => z) := by
  rcases h.2 with ⟨h', _⟩ | ⟨g', cap', cur, h', _, hg, _, _, hs, htake⟩
  · simp at h'
  · simp only [Value.slice.injEq, Option.some.injEq, Addr.mk.injEq, and_true, true_and] at h'
    obtain ⟨rfl, rfl⟩ := h'
    subst hc
    have hs' : cur.size = cap := by omega
    refine ⟨cur, hg, hs', fun j hj => ?_⟩
    rw [Nat.mul_one, toList_madeCells_one, List.take_of_length_le (by simp [hs'])] at htake
    have : cur.toList[j]? = some z := by rw [htake]; simp [hj]
    simpa using this


/-- a row that the call made, as 'ownsRow' has it -/
theorem Row.owns (h : Row w g e n f) {B : Nat} (hB : B ≤ g) (hn : n ≤ maxLen) : w.ownsRow B e 1 (.slice (some ⟨g, 0, none⟩) n n) n ((List.range n).map f) := by
  obtain ⟨cur, h1, h2, h3⟩ := h.blk
  refine ⟨by simp, .inr ⟨g, n, cur, rfl, hB, h1, Nat.le_refl _, hn, by omega, ?_⟩⟩
  apply List.ext_getElem?
  intro j
  by_cases hj : j < n
  · have := h3 j hj
    simp [hj, this]
  · simp [hj]
    omega
end

/-- 'make([]T, n)' at the operation, for the walk. -/
theorem wpList_make_row {P : Program} (w : World) {ops : Array Oper} {rest : List Oper} {o : Oper} {a : Act} {Q : Exit → Act → World → Prop}
    (hg : o.guard = none) (l c : Operand) (t : TypeId) (hop : o.op = Op.makeSlice t l c)
    (e : TypeId) (i : TypeInfo) (z : Value) (h1 : P.underlying t = some (.slice e)) (h2 : P.info? e = some i) (h3 : i.zero = some z) (h4 : i.size = 1) (hz : z.cells = #[z])
    (kl kc : IntKind) (L C : Int) (n : Nat) (hl : a.eval l = .int kl L) (hc : a.eval c = .int kc C) (hL : L = (n : Int)) (hC : C = (n : Int)) (b2 : i.bytes * n ≤ 281474976710656) (b3 : n ≤ maxLen)
    (hK : ∀ w', Row w' w.heap.size e n (fun _ => z) → Below w.heap.size w w' → wpList P ops Q rest (a.put o.dst (.slice (some ⟨w.heap.size, 0, none⟩) n n)) w') :
    wpList P ops Q (o :: rest) a w := by
  refine wpList_make_full w hg l c t hop w.heap.size e i z 1 h1 h2 h3 h4 kl kc L C n hl hc hL hC b2 b3 (Nat.le_refl _) ?_
  intro w' hown hgrow
  rw [hz] at hown
  exact hK w' (Row.made hown rfl) ((Below.refl _ _).grown hgrow (Nat.le_refl _) (fun k hk => by cases hk))


/-- bytes as cells -/
def cellsOf (L : List Int) : List Value := L.map (Value.int .u8)

/-- A slice of bytes as it lies in memory: n bytes f 0 .. f (n-1) from ⟨b, off⟩ on; at n = 0 nothing is known of the address. -/
structure Bys (w : World) (a : Option Addr) (b off n : Nat) (f : Nat → Int) : Prop where
  addr : 0 < n → a = some ⟨b, off, none⟩
  cell : ∀ j, j < n → w.cell? ⟨b, off + j, none⟩ = some (.int .u8 (f j))
  lt : 0 < n → b < w.heap.size
  byte : ∀ j, j < n → 0 ≤ f j ∧ f j ≤ 255

theorem Bys.below {w w' : World} {a : Option Addr} {b off n B : Nat} {f : Nat → Int} (h : Bys w a b off n f) (hb : Below B w w') (hB : 0 < n → b < B) : Bys w' a b off n f :=
  ⟨h.addr, fun j hj => (hb.cell (p := ⟨b, off + j, none⟩) (hB (by omega))).trans (h.cell j hj), fun hn => Nat.lt_of_lt_of_le (h.lt hn) hb.size, h.byte⟩
theorem Bys.belowSelf {w w' : World} {a : Option Addr} {b off n : Nat} {f : Nat → Int} (h : Bys w a b off n f) (hb : Below w.heap.size w w') : Bys w' a b off n f := h.below hb h.lt
theorem Bys.drewN {w : World} {a : Option Addr} {b off n : Nat} {f : Nat → Int} (h : Bys w a b off n f) (q : Nat) : Bys (w.drewN q) a b off n f := ⟨h.addr, h.cell, h.lt, h.byte⟩

/-- all bytes -/
def Bytes (L : List Int) : Prop := ∀ x ∈ L, 0 ≤ x ∧ x ≤ 255
/-- the call's own buffer v holds the bytes L; its row lies from block B on -/
def Owns (w : World) (B : Nat) (v : Value) (L : List Int) : Prop := w.ownsRow B 5 1 v L.length (cellsOf L)

theorem Owns.slice {w : World} {B : Nat} {v : Value} {L : List Int} (h : Owns w B v L) (hL : Bytes L) :
    ∃ a g c, v = .slice a L.length c ∧ L.length ≤ c ∧ c ≤ maxLen ∧ Bys w a g 0 L.length (fun j => L.getD j 0) ∧ (0 < L.length → v.ownBlock = some g) := by
  have hb : ∀ j, j < L.length → 0 ≤ L.getD j 0 ∧ L.getD j 0 ≤ 255 := fun j hj => by
    rw [List.getD, List.getElem?_eq_getElem hj]
    exact hL _ (List.getElem_mem hj)
  rcases h.2 with ⟨rfl, h0⟩ | ⟨g, cap, cur, rfl, hB, hh, hn, hm, hs, ht⟩
  · have : L.length = 0 := h0
    exact ⟨none, 0, 0, by rw [this], by omega, Nat.zero_le _, ⟨fun h => absurd h (by omega), fun j h => absurd h (by omega), fun h => absurd h (by omega), hb⟩, fun h => absurd h (by omega)⟩
  · refine ⟨some ⟨g, 0, none⟩, g, cap, rfl, hn, hm, ⟨fun _ => rfl, fun j hj => ?_, fun _ => lt_of_block hh, hb⟩, fun _ => rfl⟩
    rw [Nat.zero_add, cell_of_row w g j cur 5 (0, 0) hh]
    have h1 : (cur.toList.take (L.length * 1))[j]? = (cellsOf L)[j]? := by rw [ht]
    rw [List.getElem?_take_of_lt (by omega)] at h1
    simp only [Array.getElem?_toList] at h1
    rw [h1]
    simp [cellsOf, hj]
end Go.Proofs.Qxb6616595a
