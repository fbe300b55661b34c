import Derived.Test.Qxb6616595aW8
namespace Go.Proofs.Qxb6616595a
open Go.RowKit

def noted (t : Int) (s : ByteArray) : List Int := Z20 ++ be4 (t % 4294967296) ++ be4 3 ++ be4 (s.size : Int) ++ strBytes s
theorem noted_length (t : Int) (s : ByteArray) : (noted t s).length = 32 + s.size := by
  simp [noted, Z20, be4, strBytes_length]
  omega

theorem cells_two {W w' : World} {g : Nat} {x y : Value} {t : TypeId} {fr : Nat × Nat} {B : Nat} (hg : W.heap[g]? = some (.cells #[x, y] t fr)) (hb : Below B W w') (hB : g < B) :
    w'.cell? ⟨g, 0, none⟩ = some x ∧ w'.cell? ⟨g, 1, none⟩ = some y := by
  have h := (hb.block g hB).trans hg
  refine ⟨?_, ?_⟩ <;> rw [cell_of_row w' g _ _ t fr h] <;> rfl

set_option maxHeartbeats 1000000 in
set_option maxRecDepth 100000 in
theorem frame14 (t z : Int) (s : ByteArray) (w : World) (hs : s.size ≤ 1048576) :
    Calls Try.prog 14 #[.agg #[.int .i32 t, .string s], .int .i64 z] w fun e w' => (∃ v, e = .returned v ∧ Owns w' (w.heap.size + 1) v (replied (noted t s) z)) ∧ Below w.heap.size w w' := by
  have hbox := heap_alloc_new w (.cells #[.int .i32 t, .string s] 36)
  have hb0 : Below w.heap.size w (w.alloc (.cells #[.int .i32 t, .string s] 36)) := (Below.refl _ _).alloc (Nat.le_refl _) _
  have hsz : (w.alloc (.cells #[.int .i32 t, .string s] 36)).heap.size = w.heap.size + 1 := by simp
  go_enter Try.func14, Try.ntmps14
  go_wp2_with fail
  generalize (w.alloc (.cells #[.int .i32 t, .string s] 36)) = W at *
  refine (newReply17 W).mono ?_
  rintro e w1 ⟨rfl, hE1, hb1⟩
  rw [hsz] at hE1 hb1 ⊢
  obtain ⟨c0, c1⟩ := cells_two hbox hb1 (by omega)
  have hz1 := hb1.size
  go_wp2_with fail
  refine (int9 (w.heap.size + 1) (w.heap.size + 1 + 1) _ t _ hE1 (by omega) (by simp [Z20])).mono ?_
  rintro e w2 ⟨rfl, hE2, hb2⟩
  have hb12 := hb1.trans hb2
  have hz2 := hb2.size
  clear hE1 hb1 hb2 c0 c1
  go_wp2_with fail
  refine (int9 (w.heap.size + 1) (w.heap.size + 1 + 1) _ 3 _ hE2 (by omega) (by simp [Z20, be4])).mono ?_
  rintro e w3 ⟨rfl, hE3, hb3⟩
  have hb13 := hb12.trans hb3
  have hz3 := hb3.size
  obtain ⟨c0, c1⟩ := cells_two hbox hb13 (by omega)
  clear hE2 hb12 hb3
  go_wp2_with fail
  refine (string18 (w.heap.size + 1) (w.heap.size + 1 + 1) _ s _ hE3 (by omega) (by simp [Z20, be4]) hs).mono ?_
  rintro e w4 ⟨rfl, hE4, hb4⟩
  have hb14 := hb13.trans hb4
  clear hE3 hb13 hb4 c0 c1
  have hE : Enc w4 (w.heap.size + 1) (w.heap.size + 1 + 1) (noted t s) := hE4
  have hl := noted_length t s
  have HL : Hid ((noted t s).length = 32 + s.size) := hl
  obtain ⟨g, cap, hA⟩ := hE.at (by omega)
  clear hE4 hl hE
  have hg := hA.gg
  have hz4 := hb14.size
  go_wp2_with fail
  refine (reply19 (w.heap.size + 1) (w.heap.size + 1 + 1) g cap _ z _ hA (by rw [HL.out]; omega) (by rw [HL.out]; omega)).mono ?_
  rintro e w5 ⟨rfl, hA5, hk⟩
  have ho := hA5.owns
  have hlen : (replied (noted t s) z).length = (noted t s).length := by simp only [replied, set4_length, set8_length]
  rw [hlen] at ho
  have hfin := hb0.trans ((hb14.trans (hk.below (by omega) (fun k e => by cases e; exact hg))).mono (by omega))
  clear hlen hA5 hA hk hb14
  go_wp2
  go_ret
  exact ⟨⟨_, rfl, ho⟩, hfin⟩
end Go.Proofs.Qxb6616595a
