import Derived.Test.Qxb6616595aW2
import Derived.Deep.RegionWith
namespace Go.Proofs.Qxb6616595a
open Go.RowKit

set_option maxHeartbeats 2000000 in
set_option maxRecDepth 100000 in
theorem long8 (B ge : Nat) (L : List Int) (v : Int) (w : World) (h : Enc w B ge L) (hB : B ≤ w.heap.size) (hlim : L.length ≤ 4294967296) :
    Calls Try.prog 8 #[.pointer (some ⟨ge, 0, none⟩), .int .i64 v] w fun e w' => e = .returned (.tuple #[]) ∧ Enc w' B ge (L ++ be8 (v % 18446744073709551616)) ∧ Below B w w' := by
  obtain ⟨sv, h1, h2⟩ := h.ex
  have hge := h.ge
  obtain ⟨a, n, c, rfl⟩ := h2.shape
  have hc := cell_of_one h1
  have hne := owns_ne h2 h1 (by decide)
  have HB : ∀ k, (Value.slice a n c).ownBlock = some k → B ≤ k := fun k hk => (World.ownsRow.lt h2 k hk).1
  have H1 : Hid (w.drew.heap[ge]? = some (.cells #[.slice a n c] 39 (0, 0))) := h1
  clear h1
  go_enter Try.func8, Try.ntmps8
  have H2 : Hid (Owns w.drew B (.slice a n c) L) := h2
  clear h2
  go_wp2
  go_region_with (go_at_call 15; refine (append15 B (v % 18446744073709551616) (by omega) (by omega) (.slice a n c) L w.drew H2.out hB hlim).mono ?_; rintro e w1 ⟨v', rfl, ho, hk⟩; obtain ⟨a', n', c', rfl⟩ := ho.shape; obtain ⟨f1, f2, f3⟩ := Enc.stored hge H1.out hne hk ho)
  all_goals
    go_end0
    exact ⟨rfl, f3, ((Below.refl B w).drew.trans (hk.below hB HB)).setCell hge _⟩

set_option maxHeartbeats 2000000 in
set_option maxRecDepth 100000 in
theorem int9 (B ge : Nat) (L : List Int) (v : Int) (w : World) (h : Enc w B ge L) (hB : B ≤ w.heap.size) (hlim : L.length ≤ 4294967296) :
    Calls Try.prog 9 #[.pointer (some ⟨ge, 0, none⟩), .int .i32 v] w fun e w' => e = .returned (.tuple #[]) ∧ Enc w' B ge (L ++ be4 (v % 4294967296)) ∧ Below B w w' := by
  obtain ⟨sv, h1, h2⟩ := h.ex
  have hge := h.ge
  obtain ⟨a, n, c, rfl⟩ := h2.shape
  have hc := cell_of_one h1
  have hne := owns_ne h2 h1 (by decide)
  have HB : ∀ k, (Value.slice a n c).ownBlock = some k → B ≤ k := fun k hk => (World.ownsRow.lt h2 k hk).1
  have H1 : Hid (w.drew.heap[ge]? = some (.cells #[.slice a n c] 39 (0, 0))) := h1
  clear h1
  go_enter Try.func9, Try.ntmps9
  have H2 : Hid (Owns w.drew B (.slice a n c) L) := h2
  clear h2
  go_wp2
  go_region_with (go_at_call 16; refine (append16 B (v % 4294967296) (by omega) (by omega) (.slice a n c) L w.drew H2.out hB hlim).mono ?_; rintro e w1 ⟨v', rfl, ho, hk⟩; obtain ⟨a', n', c', rfl⟩ := ho.shape; obtain ⟨f1, f2, f3⟩ := Enc.stored hge H1.out hne hk ho)
  all_goals
    go_end0
    exact ⟨rfl, f3, ((Below.refl B w).drew.trans (hk.below hB HB)).setCell hge _⟩
end Go.Proofs.Qxb6616595a
