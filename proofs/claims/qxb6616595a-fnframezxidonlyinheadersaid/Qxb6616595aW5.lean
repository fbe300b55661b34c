import Derived.Test.Qxb6616595aW4
import Derived.Lib.AppendStr
namespace Go.Proofs.Qxb6616595a
open Go.RowKit

theorem bytes13 (t : Int) (s : ByteArray) (x y : Int) (w : World) (hn : s.size ≤ maxLen) :
    Calls Try.prog 13 #[.int .i32 t, .string s, .int .i64 x, .int .i64 y] w fun e w' => SomeBool e ∧ w = w' := by
  unfold maxLen at hn
  by_cases h : 1048576 < s.size
  · go_enter Try.func13, Try.ntmps13
    go_wp2
    go_ret
    exact ⟨SomeBool.mk _, rfl⟩
  · go_enter Try.func13, Try.ntmps13
    go_wp2
    go_ret
    exact ⟨SomeBool.mk _, rfl⟩

/-! ### NewReply -/
def zeros128 : Array Value := Array.replicate 128 (.int .u8 0)
theorem mk128 (w : World) : (Instr.makeSlice 22 (.int .i64 20) (.int .i64 128)).run Try.prog w = .ok (.slice (some ⟨w.heap.size, 0, none⟩) 20 128) (w.alloc (.cells zeros128 5)) := by kernel_rfl
def Z20 : List Int := [0, 0, 0, 0, 0, 0, 0, 0, 0, 0, 0, 0, 0, 0, 0, 0, 0, 0, 0, 0]

theorem owns_new (w : World) (B : Nat) (hB : B ≤ w.heap.size) : Owns (w.alloc (.cells zeros128 5)) B (.slice (some ⟨w.heap.size, 0, none⟩) 20 128) Z20 :=
  ⟨rfl, .inr ⟨w.heap.size, 128, zeros128, rfl, hB, heap_alloc_new w _, by decide, by decide, rfl, rfl⟩⟩

set_option maxHeartbeats 400000 in
theorem newReply17 (w : World) :
    Calls Try.prog 17 #[] w fun e w' => e = .returned (.pointer (some ⟨w.heap.size + 1, 0, none⟩)) ∧ Enc w' w.heap.size (w.heap.size + 1) Z20 ∧ Below w.heap.size w w' := by
  have hmk := mk128
  have ho := owns_new w w.heap.size (Nat.le_refl _)
  go_enter Try.func17, Try.ntmps17
  go_wp2
  go_ret
  refine ⟨rfl, ⟨⟨_, ?_, ho.alloc _⟩, by omega⟩, ((Below.refl _ _).alloc (Nat.le_refl _) _).alloc (by simp) _⟩
  have h := heap_alloc_new (w.alloc (.cells zeros128 5)) (.cells #[.slice (some ⟨w.heap.size, 0, none⟩) 20 128] 39)
  simpa using h

/-! ### (*Encoder).String -/
def strBytes (s : ByteArray) : List Int := s.data.toList.map fun b => (b.toNat : Int)
theorem strBytes_length (s : ByteArray) : (strBytes s).length = s.size := by
  unfold strBytes
  rw [List.length_map, Array.length_toList]
  rfl
theorem strBytes_cells (s : ByteArray) : cellsOf (strBytes s) = Lib.strCells s := by simp [cellsOf, strBytes, Lib.strCells]
theorem strBytes_bytes (s : ByteArray) : Bytes (strBytes s) := by
  intro x hx
  simp only [strBytes, List.mem_map] at hx
  obtain ⟨b, _, rfl⟩ := hx
  have := b.toNat_lt
  omega

theorem keeps_grown {w w2 : World} {row : Option Nat} (h : w.grownBy w2 row) : Keeps w w2 row :=
  ⟨h.os, h.tape, h.output, h.size, fun k hk hr => h.block k hk hr⟩

set_option maxHeartbeats 2000000 in
set_option maxRecDepth 100000 in
theorem string18 (B ge : Nat) (L : List Int) (s : ByteArray) (w : World) (h : Enc w B ge L) (hB : B ≤ w.heap.size) (hlim : L.length ≤ 2147483648) (hs : s.size ≤ 1048576) :
    Calls Try.prog 18 #[.pointer (some ⟨ge, 0, none⟩), .string s] w fun e w' => e = .returned (.tuple #[]) ∧ Enc w' B ge (L ++ be4 (s.size : Int) ++ strBytes s) ∧ Below B w w' := by
  obtain ⟨i0, hi, hz0, hz1, hz2⟩ := info_parts info5
  have hge := h.ge
  go_enter Try.func18, Try.ntmps18
  go_wp2_with fail
  refine (int9 B ge L (s.size : Int) _ h hB (by omega)).mono ?_
  rintro e w1 ⟨rfl, hE1, hb1⟩
  rw [show (s.size : Int) % 4294967296 = (s.size : Int) by omega] at hE1
  have hB1 : B ≤ w1.heap.size := Nat.le_trans hB hb1.size
  have hlen : (L ++ be4 (s.size : Int)).length = L.length + 4 := by simp [be4]
  generalize hM : L ++ be4 (s.size : Int) = M at hE1 hlen
  have HM : Hid (L ++ be4 (s.size : Int) = M) := hM
  clear hM
  obtain ⟨sv, h1, h2⟩ := hE1.ex
  obtain ⟨a, n, c, rfl⟩ := h2.shape
  have hc := cell_of_one h1
  have hne := owns_ne h2 h1 (by decide)
  have HB : ∀ k, (Value.slice a n c).ownBlock = some k → B ≤ k := fun k hk => (World.ownsRow.lt h2 k hk).1
  have H1 : Hid (w1.heap[ge]? = some (.cells #[.slice a n c] 39 (0, 0))) := h1
  have h2' : w1.ownsRow B 5 1 (.slice a n c) M.length (cellsOf M) := h2
  have HL : Hid (M.length = L.length + 4) := hlen
  clear h1 hlen hE1 h
  go_wp2_with (first
    | (at_builtin; refine Lib.wpList_append_own_string _ rfl _ _ 22 9 rfl B 5 i0 Try.underlying22 Try.underlying9 hi hz0 hz1 hz2 _ _ _ rfl h2' s rfl ?c1 ?c2 hB1 ?_)
    | go_in)
  case c1 => have := HL.out; unfold maxLen; omega
  case c2 => have := HL.out; omega
  intro v' w2 ho' hgrow _
  have ho : Owns w2 B v' (M ++ strBytes s) := by
    unfold Owns
    rw [List.length_append, strBytes_length]
    have e : cellsOf (M ++ strBytes s) = cellsOf M ++ Lib.strCells s := by rw [← strBytes_cells]; simp [cellsOf]
    rw [e]
    exact ho'
  obtain ⟨a', n', c', rfl⟩ := ho.shape
  have hk := keeps_grown hgrow
  obtain ⟨f1, f2, f3⟩ := Enc.stored hge H1.out hne hk ho
  have hfin := (hb1.trans (hk.below hB1 HB)).setCell (p := ⟨ge, 0, none⟩) hge (.slice a' n' c')
  clear ho ho' hgrow hk h2 h2' HL
  go_wp2
  go_end0
  rw [HM.out]
  exact ⟨rfl, f3, hfin⟩

end Go.Proofs.Qxb6616595a
