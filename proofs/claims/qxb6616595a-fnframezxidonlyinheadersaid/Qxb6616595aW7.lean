import Derived.Test.Qxb6616595aW6
import Derived.Deep.RegionHeld
namespace Go.Proofs.Qxb6616595a
open Go.RowKit

structure EncAt (w : World) (B ge g cap : Nat) (L : List Int) : Prop where
  heap : w.heap[ge]? = some (.cells #[.slice (some ⟨g, 0, none⟩) L.length cap] 39 (0, 0))
  owns : Owns w B (.slice (some ⟨g, 0, none⟩) L.length cap) L
  gle : B ≤ ge
  gg : B ≤ g
  ne : g ≠ ge
  le : L.length ≤ cap
  max : cap ≤ maxLen

theorem Enc.at {w : World} {B ge : Nat} {L : List Int} (h : Enc w B ge L) (hl : 0 < L.length) : ∃ g cap, EncAt w B ge g cap L := by
  obtain ⟨sv, h1, h2⟩ := h.ex
  have h2' := h2
  have hne := owns_ne h2 h1 (by decide)
  rcases h2.2 with ⟨rfl, h0⟩ | ⟨g, cap, cur, rfl, hB, hh, hn, hm, hs, ht⟩
  · have : L.length = 0 := h0
    omega
  · exact ⟨g, cap, h1, h2', h.ge, hB, fun e => hne (by rw [e]; rfl), hn, hm⟩

theorem Keeps.drew {w w' : World} {row : Option Nat} (h : Keeps w w' row) : Keeps w w'.drew row := ⟨h.os, h.tape, h.output, h.size, h.block⟩
theorem Keeps.trans {w w' w'' : World} {row : Option Nat} (h : Keeps w w' row) (h' : Keeps w' w'' row) : Keeps w w'' row :=
  ⟨h'.os.trans h.os, h'.tape.trans h.tape, h'.output.trans h.output, Nat.le_trans h.size h'.size, fun k hk hr => (h'.block k (Nat.lt_of_lt_of_le hk h.size) hr).trans (h.block k hk hr)⟩

theorem EncAt.kept {w w' : World} {B ge g cap : Nat} {L L' : List Int} (h : EncAt w B ge g cap L) (hk : Keeps w w' (some g)) (hl : L'.length = L.length) (ho : Owns w' B (.slice (some ⟨g, 0, none⟩) L'.length cap) L') : EncAt w' B ge g cap L' :=
  ⟨by rw [hl]; exact (hk.block ge (lt_of_block h.heap) (fun e => h.ne (Option.some.inj e).symm)).trans h.heap, ho, h.gle, h.gg, h.ne, by rw [hl]; exact h.le, h.max⟩

theorem wrap_len (n : Nat) (h : 4 ≤ n) (h' : n ≤ 4294967299) : IntKind.u32.wrap (IntKind.i64.wrap ((n : Int) - 4)) = (n : Int) - 4 := by
  simp [IntKind.wrap, IntKind.bits, IntKind.signed]
  omega
theorem wrap_z (z : Int) : IntKind.u64.wrap z = z % 18446744073709551616 := by
  simp [IntKind.wrap, IntKind.bits, IntKind.signed]

set_option maxHeartbeats 400000 in
set_option maxRecDepth 100000 in
theorem frame22 (B ge g cap : Nat) (L : List Int) (w : World) (h : EncAt w B ge g cap L) (hl : 4 ≤ L.length) (hm : L.length ≤ 4294967299) :
    Calls Try.prog 22 #[.pointer (some ⟨ge, 0, none⟩)] w fun e w' => e = .returned (.slice (some ⟨g, 0, none⟩) L.length cap) ∧ EncAt w' B ge g cap (set4 L 0 ((L.length : Int) - 4)) ∧ Keeps w w' (some g) := by
  have hc := cell_of_one h.heap
  have H : Hid (EncAt w.drew B ge g cap L) := ⟨h.heap, h.owns, h.gle, h.gg, h.ne, h.le, h.max⟩
  have HW : Hid (IntKind.u32.wrap (IntKind.i64.wrap ((L.length : Int) - 4)) = (L.length : Int) - 4) := wrap_len _ hl hm
  clear h
  go_enter Try.func22, Try.ntmps22
  go_wp2_with fail
  go_region_held (fun w' => w'.cell? ⟨ge, 0, none⟩ = some (.slice (some ⟨g, 0, none⟩) L.length cap)) (first | exact hc1 | go_keep) ((go_at_call 20; rw [HW.out]; refine (put20 B g 0 L.length cap cap L ((L.length : Int) - 4) w.drew (by omega) (by omega) H.out.owns (by omega) (by omega)).mono ?_; rintro e w1 ⟨rfl, ho, hk⟩; have he := H.out.kept hk (set4_length _ _ _) ho; have hc1 := cell_of_one he.heap; rw [set4_length] at hc1; clear ho))
  all_goals
    go_wp2
    go_ret
    exact ⟨rfl, he, (Keeps.refl w _).drew.trans hk⟩
end Go.Proofs.Qxb6616595a
