import Derived.WalkKit
import Derived.WalkSpells
import Derived.WalkLawsBesides
import Derived.Laws.CopyOwn
namespace Go.Proofs.Qxb6617809a
open Go.RowKit

/-- The ending is a bool, whichever. -/
def SomeBool (e : Ending) : Prop := ∃ r, e = .returned (.bool r)
theorem SomeBool.mk (r : Bool) : SomeBool (.returned (.bool r)) := ⟨r, rfl⟩

/-- A slice of strings as it lies in memory: n strings S 0 .. S (n-1) from ⟨b, off⟩ on; at n = 0 nothing is known of the address. -/
structure Strs (w : World) (a : Option Addr) (b off n : Nat) (S : Nat → ByteArray) : Prop where
  addr : 0 < n → a = some ⟨b, off, none⟩
  cell : ∀ j, j < n → w.cell? ⟨b, off + j, none⟩ = some (.string (S j))
  size : ∀ j, j < n → (S j).size ≤ maxLen
  lt : 0 < n → b < w.heap.size

theorem Strs.below {w w' : World} {a : Option Addr} {b off n B : Nat} {S : Nat → ByteArray} (h : Strs w a b off n S) (hb : Below B w w') (hB : 0 < n → b < B) : Strs w' a b off n S :=
  ⟨h.addr, fun j hj => (hb.cell (p := ⟨b, off + j, none⟩) (hB (by omega))).trans (h.cell j hj), h.size, fun hn => Nat.lt_of_lt_of_le (h.lt hn) hb.size⟩

theorem Strs.belowSelf {w w' : World} {a : Option Addr} {b off n : Nat} {S : Nat → ByteArray} (h : Strs w a b off n S) (hb : Below w.heap.size w w') : Strs w' a b off n S := h.below hb h.lt

theorem Strs.take {w : World} {a : Option Addr} {b off n : Nat} {S : Nat → ByteArray} (h : Strs w a b off n S) {m : Nat} (hm : m ≤ n) : Strs w a b off m S :=
  ⟨fun h0 => h.addr (by omega), fun j hj => h.cell j (by omega), fun j hj => h.size j (by omega), fun h0 => h.lt (by omega)⟩

/-- A row of n one-cell elements that the call itself made: block g, unfrozen, f 0 .. f (n-1). -/
structure Row (w : World) (g : Nat) (e : TypeId) (n : Nat) (f : Nat → Value) : Prop where
  blk : ∃ cur : Array Value, w.heap[g]? = some (.cells cur e (0, 0)) ∧ cur.size = n ∧ ∀ j, j < n → cur[j]? = some (f j)

section
variable {w : World} {g : Nat} {e : TypeId} {n : Nat} {f : Nat → Value}

theorem Row.cell (h : Row w g e n f) {j : Nat} (hj : j < n) : w.cell? ⟨g, j, none⟩ = some (f j) := by
  obtain ⟨cur, h1, _, h3⟩ := h.blk
  rw [cell_of_row w g j cur e (0, 0) h1]; exact h3 j hj

theorem Row.free (h : Row w g e n f) (j : Nat) : w.frozen? ⟨g, j, none⟩ = false := by
  obtain ⟨cur, h1, _, _⟩ := h.blk
  exact frozen_of_row w g j cur e h1

theorem Row.lt (h : Row w g e n f) : g < w.heap.size := by
  obtain ⟨cur, h1, _, _⟩ := h.blk
  exact lt_of_block h1

theorem Row.congr (h : Row w g e n f) {f' : Nat → Value} (hf : ∀ j, j < n → f' j = f j) : Row w g e n f' := by
  obtain ⟨cur, h1, h2, h3⟩ := h.blk
  exact ⟨cur, h1, h2, fun j hj => by rw [hf j hj]; exact h3 j hj⟩

theorem Row.ofBlock {w' : World} (h : Row w g e n f) (hb : w'.heap[g]? = w.heap[g]?) : Row w' g e n f := by
  obtain ⟨cur, h1, h2, h3⟩ := h.blk
  exact ⟨cur, hb.trans h1, h2, h3⟩

theorem Row.below {w' : World} {B : Nat} (h : Row w g e n f) (hb : Below B w w') (hg : g < B) : Row w' g e n f := h.ofBlock (hb.block g hg)

theorem Row.alloc (h : Row w g e n f) (o : Obj) : Row (w.alloc o) g e n f := h.ofBlock (Below.heap_alloc w o g h.lt)

theorem Row.other (h : Row w g e n f) {a : Addr} (ha : g ≠ a.block) (u : Value) : Row (w.setCell a u) g e n f := h.ofBlock (Below.heap_setCell w a u g ha)

/-- f with the place i turned to u -/
def upd {β : Type} (f : Nat → β) (i : Nat) (u : β) : Nat → β := fun j => if j = i then u else f j
theorem upd_same {β : Type} (f : Nat → β) (i : Nat) (u : β) : upd f i u i = u := by simp [upd]
theorem upd_other {β : Type} (f : Nat → β) {i j : Nat} (u : β) (h : j ≠ i) : upd f i u j = f j := by simp [upd, h]

theorem Row.set (h : Row w g e n f) {i : Nat} (hi : i < n) (u : Value) : Row (w.setCell ⟨g, i, none⟩ u) g e n (upd f i u) := by
  obtain ⟨cur, h1, h2, h3⟩ := h.blk
  refine ⟨cur.setIfInBounds i u, heap_setCell_same w g i cur e u h1, by simpa using h2, fun j hj => ?_⟩
  rw [Array.getElem?_setIfInBounds]
  by_cases hij : i = j
  · subst hij; simp [upd, h2, hi]
  · rw [if_neg hij, upd_other _ _ (fun e => hij e.symm)]; exact h3 j hj

/-- behind 'make([]T, n)' -/
theorem Row.made {base cap : Nat} {z : Value} (h : w.ownsRow base e 1 (.slice (some ⟨g, 0, none⟩) n cap) n (madeCells #[z] (n * 1)).toList) (hc : cap = n) : Row w g e n (fun _ => z) := by
  rcases h.2 with ⟨h', _⟩ | ⟨g', cap', cur, h', _, hg, _, _, hs, htake⟩
  · simp at h'
  · simp only [Value.slice.injEq, Option.some.injEq, Addr.mk.injEq, and_true, true_and] at h'
    obtain ⟨rfl, rfl⟩ := h'
    subst hc
    have hs' : cur.size = cap := by omega
    refine ⟨cur, hg, hs', fun j hj => ?_⟩
    rw [Nat.mul_one, toList_madeCells_one, List.take_of_length_le (by simp [hs'])] at htake
    have : cur.toList[j]? = some z := by rw [htake]; simp [hj]
    simpa using this

/-- a row of strings reads as a slice of strings -/
theorem Row.strs {S : Nat → ByteArray} (h : Row w g e n (fun j => .string (S j))) (hS : ∀ j, j < n → (S j).size ≤ maxLen) : Strs w (some ⟨g, 0, none⟩) g 0 n S :=
  ⟨fun _ => rfl, fun j hj => by rw [Nat.zero_add]; exact h.cell hj, hS, fun _ => h.lt⟩
end

/-- 'make([]T, n)' at the operation, for the walk. -/
theorem wpList_make_row {P : Program} (w : World) {ops : Array Oper} {rest : List Oper} {o : Oper} {a : Act} {Q : Exit → Act → World → Prop}
    (hg : o.guard = none) (l c : Operand) (t : TypeId) (hop : o.op = Op.makeSlice t l c)
    (e : TypeId) (i : TypeInfo) (z : Value) (h1 : P.underlying t = some (.slice e)) (h2 : P.info? e = some i) (h3 : i.zero = some z) (h4 : i.size = 1) (hz : z.cells = #[z])
    (kl kc : IntKind) (L C : Int) (n : Nat) (hl : a.eval l = .int kl L) (hc : a.eval c = .int kc C) (hL : L = (n : Int)) (hC : C = (n : Int)) (b2 : i.bytes * n ≤ 281474976710656) (b3 : n ≤ maxLen)
    (hK : ∀ w', Row w' w.heap.size e n (fun _ => z) → Below w.heap.size w w' → wpList P ops Q rest (a.put o.dst (.slice (some ⟨w.heap.size, 0, none⟩) n n)) w') :
    wpList P ops Q (o :: rest) a w := by
  refine wpList_make_full w hg l c t hop w.heap.size e i z 1 h1 h2 h3 h4 kl kc L C n hl hc hL hC b2 b3 (Nat.le_refl _) ?_
  intro w' hown hgrow
  rw [hz] at hown
  exact hK w' (Row.made hown rfl) ((Below.refl _ _).grown hgrow (Nat.le_refl _) (fun k hk => by cases hk))

theorem range_strs {n : Nat} {S : Nat → ByteArray} {j : Nat} {v : Value} (h : ((List.range n).map fun j => Value.string (S j))[j]? = some v) : j < n ∧ v = .string (S j) := by
  rw [List.getElem?_map] at h
  by_cases hj : j < n
  · rw [List.getElem?_range hj] at h
    simp at h
    exact ⟨hj, h.symm⟩
  · rw [List.getElem?_eq_none (by simpa using hj)] at h
    simp at h

/-- 'copy(dst, src)' of as many strings as the row has, at the operation, for the walk. -/
theorem wpList_copy_row {P : Program} {w : World} {ops : Array Oper} {rest : List Oper} {o : Oper} {a : Act} {Q : Exit → Act → World → Prop} (hgd : o.guard = none) (d s : Operand) (dT sT : TypeId)
    (ho : o.op = .call { callee := .builtin .copy, args := #[d, s], argTypes := #[dT, sT] }) (elem : TypeId) (hu : P.underlying dT = some (.slice elem)) (hsz : (P.info? elem).map (·.size) = some 1)
    (g n dCap sCap : Nat) (sp : Option Addr) (hd : a.eval d = .slice (some ⟨g, 0, none⟩) n dCap) (hs : a.eval s = .slice sp n sCap)
    (e : TypeId) (f : Nat → Value) (hrow : Row w g e n f) (b off : Nat) (S : Nat → ByteArray) (hstr : Strs w sp b off n S) (B : Nat) (w0 : World) (hb : Below B w0 w) (hBg : B ≤ g)
    (h : ∀ w', Row w' g e n (fun j => .string (S j)) → Below B w0 w' → wpList P ops Q rest (a.put o.dst (goInt n)) w') :
    wpList P ops Q (o :: rest) a w := by
  obtain ⟨cur, h1, h2, h3⟩ := hrow.blk
  have hlen : ((List.range n).map fun j => Value.string (S j)).length = n := by simp
  refine wpList_copy_splice hgd d s dT sT ho elem hu hsz _ _ n dCap n sCap hd hs g 0 cur.toList e (by simpa using h1) ((List.range n).map fun j => Value.string (S j)) (by simp) ?_ (by simp [h2]) ?_ B w0 hb hBg ?_
  · intro h0
    refine ⟨rfl, ⟨b, off, none⟩, hstr.addr (by omega), fun j v hv => ?_⟩
    obtain ⟨hj, rfl⟩ := range_strs hv
    have hadd : (⟨b, off, none⟩ : Addr).add j = ⟨b, off + j, none⟩ := by unfold Addr.add; split <;> simp_all
    rw [hadd]
    exact hstr.cell j hj
  · intro v hv
    simp only [List.mem_map] at hv
    obtain ⟨j, _, rfl⟩ := hv
    rfl
  · intro w' hg' hb'
    rw [hlen]
    refine h w' ⟨_, hg'.out, ?_, fun j hj => ?_⟩ hb'
    · simp [splice, h2]
    · simp [splice, h2, hj]
end Go.Proofs.Qxb6617809a
