import Derived.Test.Qxb6616595aW7
namespace Go.Proofs.Qxb6616595a
open Go.RowKit

structure RepAt (w : World) (B ge g cap gh : Nat) (z : Int) (L : List Int) : Prop where
  enc : EncAt w B ge g cap L
  box : w.heap[gh]? = some (.cells #[.int .i32 (-1), .int .i64 z, .int .i32 0] 51 (0, 0))
  bne : g ≠ gh

theorem EncAt.drew {w : World} {B ge g cap : Nat} {L : List Int} (h : EncAt w B ge g cap L) : EncAt w.drew B ge g cap L := ⟨h.heap, h.owns, h.gle, h.gg, h.ne, h.le, h.max⟩
theorem RepAt.drew {w : World} {B ge g cap gh : Nat} {z : Int} {L : List Int} (h : RepAt w B ge g cap gh z L) : RepAt w.drew B ge g cap gh z L := ⟨h.enc.drew, h.box, h.bne⟩
theorem RepAt.kept {w w' : World} {B ge g cap gh : Nat} {z : Int} {L L' : List Int} (h : RepAt w B ge g cap gh z L) (hk : Keeps w w' (some g)) (hl : L'.length = L.length) (ho : Owns w' B (.slice (some ⟨g, 0, none⟩) L'.length cap) L') : RepAt w' B ge g cap gh z L' :=
  ⟨h.enc.kept hk hl ho, (hk.block gh (lt_of_block h.box) (fun e => h.bne (Option.some.inj e).symm)).trans h.box, h.bne⟩
theorem RepAt.cells {w : World} {B ge g cap gh N : Nat} {z : Int} {L : List Int} (h : RepAt w B ge g cap gh z L) (hN : L.length = N) :
    w.cell? ⟨ge, 0, none⟩ = some (.slice (some ⟨g, 0, none⟩) N cap) ∧ w.cell? ⟨gh, 0, none⟩ = some (.int .i32 (-1)) ∧ w.cell? ⟨gh, 1, none⟩ = some (.int .i64 z) ∧ w.cell? ⟨gh, 2, none⟩ = some (.int .i32 0) := by
  subst hN
  refine ⟨cell_of_one h.enc.heap, ?_, ?_, ?_⟩ <;> rw [cell_of_row w gh _ _ 51 (0, 0) h.box] <;> rfl

theorem RepAt.new {w : World} {B ge g cap : Nat} (z : Int) {L : List Int} (h : EncAt w B ge g cap L) : RepAt (w.alloc (.cells #[.int .i32 (-1), .int .i64 z, .int .i32 0] 51)) B ge g cap w.heap.size z L :=
  ⟨⟨(Below.heap_alloc _ _ _ (lt_of_block h.heap)).trans h.heap, h.owns.alloc _, h.gle, h.gg, h.ne, h.le, h.max⟩, heap_alloc_new w _, Nat.ne_of_lt (World.ownsRow.lt h.owns g rfl).2⟩

def replied (L : List Int) (z : Int) : List Int := set4 (set4 (set8 (set4 L 4 4294967295) 8 (z % 18446744073709551616)) 16 0) 0 ((L.length : Int) - 4)

set_option maxHeartbeats 1000000 in
set_option maxRecDepth 100000 in
theorem reply19 (B ge g cap : Nat) (L : List Int) (z : Int) (w : World) (h : EncAt w B ge g cap L) (hl : 20 ≤ L.length) (hm : L.length ≤ 4294967299) :
    Calls Try.prog 19 #[.pointer (some ⟨ge, 0, none⟩), .agg #[.int .i32 (-1), .int .i64 z, .int .i32 0]] w fun e w' => e = .returned (.slice (some ⟨g, 0, none⟩) L.length cap) ∧ EncAt w' B ge g cap (replied L z) ∧ Keeps w w' (some g) := by
  have H0 := RepAt.new z h
  have K0 := (Keeps.refl w (some g)).alloc (.cells #[.int .i32 (-1), .int .i64 z, .int .i32 0] 51)
  have hle := h.le
  obtain ⟨N, hN⟩ : ∃ N, L.length = N := ⟨_, rfl⟩
  have e1 : (set4 L 4 4294967295).length = N := by rw [set4_length]; exact hN
  have e2 : (set8 (set4 L 4 4294967295) 8 (z % 18446744073709551616)).length = N := by rw [set8_length]; exact e1
  have e3 : (set4 (set8 (set4 L 4 4294967295) 8 (z % 18446744073709551616)) 16 0).length = N := by rw [set4_length]; exact e2
  have E : Hid (L.length = N ∧ (set4 L 4 4294967295).length = N ∧ (set8 (set4 L 4 4294967295) 8 (z % 18446744073709551616)).length = N ∧ (set4 (set8 (set4 L 4 4294967295) 8 (z % 18446744073709551616)) 16 0).length = N) := ⟨hN, e1, e2, e3⟩
  have hl' : 20 ≤ N := by omega
  have hm' : N ≤ 4294967299 := by omega
  have hle' : N ≤ cap := by omega
  clear h e1 e2 e3 hl hm hle
  rw [hN]
  clear hN
  go_enter Try.func19, Try.ntmps19
  go_wp2_with fail
  generalize w.heap.size = gh at *
  generalize (w.alloc (.cells #[.int .i32 (-1), .int .i64 z, .int .i32 0] 51)) = W at *
  obtain ⟨ce, c0, c1, c2⟩ := H0.cells E.out.1
  go_region_held (fun w' => w'.cell? ⟨ge, 0, none⟩ = some (.slice (some ⟨g, 0, none⟩) N cap) ∧ w'.cell? ⟨gh, 0, none⟩ = some (.int .i32 (-1))) (first | exact ⟨d1, d2⟩ | go_keep) ((go_at_call 20; refine (put20 B g 4 (N - 4) (cap - 4) cap L 4294967295 W.drew (by omega) (by omega) H0.drew.enc.owns (by omega) (by rw [E.out.1]; omega)).mono ?_; rintro e w1 ⟨rfl, ho, hk⟩; have H1 := H0.drew.kept hk (set4_length _ _ _) ho; obtain ⟨d1, d2, -, -⟩ := H1.cells E.out.2.1; clear ho))
  have K1 := K0.drew.trans hk
  obtain ⟨ce, -, c1, c2⟩ := H1.cells E.out.2.1
  clear K0 hk H0 d1 d2
  have HZ : Hid (IntKind.u64.wrap z = z % 18446744073709551616) := wrap_z z
  go_wp2_with fail
  go_region_held (fun w' => w'.cell? ⟨ge, 0, none⟩ = some (.slice (some ⟨g, 0, none⟩) N cap) ∧ w'.cell? ⟨gh, 1, none⟩ = some (.int .i64 z)) (first | exact ⟨d1, d2⟩ | go_keep) ((go_at_call 21; (try rw [HZ.out]); refine (put21 B g 8 (N - 8) (cap - 8) cap _ (z % 18446744073709551616) w1.drew (by omega) (by omega) H1.drew.enc.owns (by omega) (by rw [E.out.2.1]; omega)).mono ?_; rintro e w2 ⟨rfl, ho, hk⟩; have H2 := H1.drew.kept hk (set8_length _ _ _) ho; obtain ⟨d1, -, d2, -⟩ := H2.cells E.out.2.2.1; clear ho))
  have K2 := K1.drew.trans hk
  obtain ⟨ce, -, -, c2⟩ := H2.cells E.out.2.2.1
  clear K1 hk H1 d1 d2
  go_wp2_with fail
  go_region_held (fun w' => w'.cell? ⟨ge, 0, none⟩ = some (.slice (some ⟨g, 0, none⟩) N cap) ∧ w'.cell? ⟨gh, 2, none⟩ = some (.int .i32 0)) (first | exact ⟨d1, d2⟩ | go_keep) ((go_at_call 20; refine (put20 B g 16 (N - 16) (cap - 16) cap _ 0 w2.drew (by omega) (by omega) H2.drew.enc.owns (by omega) (by rw [E.out.2.2.1]; omega)).mono ?_; rintro e w3 ⟨rfl, ho, hk⟩; have H3 := H2.drew.kept hk (set4_length _ _ _) ho; obtain ⟨d1, -, -, d2⟩ := H3.cells E.out.2.2.2; clear ho))
  have K3 := K2.drew.trans hk
  clear K2 hk H2 d1 d2
  go_wp2_with fail
  refine (frame22 B ge g cap _ _ H3.enc (by rw [E.out.2.2.2]; omega) (by rw [E.out.2.2.2]; omega)).mono ?_
  rintro e w4 ⟨rfl, H4, hk⟩
  rw [E.out.2.2.2] at H4 ⊢
  have H4' : EncAt w4 B ge g cap (replied L z) := by
    unfold replied
    rw [E.out.1]
    exact H4
  clear H4
  go_wp2
  go_ret
  exact ⟨rfl, H4', K3.trans hk⟩
end Go.Proofs.Qxb6616595a
