import Derived.Test.Qxb6616595aW10
namespace Go.Proofs.Qxb6616595a
open Go.RowKit

set_option maxHeartbeats 2000000 in
set_option maxRecDepth 100000 in
theorem walk4 (t : Int) (s : ByteArray) (x y : Int) (w : World) (hs : s.size ≤ maxLen)
    (hx0 : -9223372036854775808 ≤ x) (hx1 : x < 9223372036854775808) (hy0 : -9223372036854775808 ≤ y) (hy1 : y < 9223372036854775808) :
    Calls Try.prog 4 #[.int .i32 t, .string s, .int .i64 x, .int .i64 y] w fun e w' => e = .returned (.bool true) ∧ Below w.heap.size w w' := by
  have hbytes := bytes13 t s x y w hs
  unfold maxLen at hs
  by_cases hbig : 1048576 < s.size
  · go_enter Try.func4, Try.ntmps4
    go_wp2_with fail
    refine hbytes.mono ?_
    rintro e w' ⟨⟨r, rfl⟩, rfl⟩
    cases r
    · go_wp2
      go_ret
      exact ⟨rfl, Below.refl _ _⟩
    · go_wp2
      go_ret
      exact ⟨rfl, Below.refl _ _⟩
  have hd : decide ((1048576 : Int) < (s.size : Int)) = false := by simp; omega
  have hbox := heap_alloc_new w (.cells #[.int .i32 t, .string s] 36)
  have hb0 : Below w.heap.size w (w.alloc (.cells #[.int .i32 t, .string s] 36)) := (Below.refl _ _).alloc (Nat.le_refl _) _
  have hsz : (w.alloc (.cells #[.int .i32 t, .string s] 36)).heap.size = w.heap.size + 1 := by simp
  go_enter Try.func4, Try.ntmps4
  go_wp2_with fail
  refine hbytes.mono ?_
  rintro e w' ⟨⟨r, rfl⟩, rfl⟩
  cases r
  · go_wp2
    go_ret
    exact ⟨rfl, Below.refl _ _⟩
  clear hbytes
  go_wp2_with fail
  generalize (w.alloc (.cells #[.int .i32 t, .string s] 36)) = W at *
  refine (frame14 t x s W (by omega)).mono ?_
  rintro e w1 ⟨⟨v1, rfl, ho1⟩, hb1⟩
  obtain ⟨p1, q1, d1, rfl, hd1, hdm1, hB1, -⟩ := ho1.slice (replied_bytes t x s (by omega))
  obtain ⟨c0, c1⟩ := cells_two hbox hb1 (by omega)
  rw [replied_length] at hB1 hd1 ⊢
  clear ho1
  go_wp2_with fail
  refine (frame14 t y s _ (by omega)).mono ?_
  rintro e w2 ⟨⟨v2, rfl, ho2⟩, hb2⟩
  obtain ⟨p2, q2, d2, rfl, hd2, hdm2, hB2, -⟩ := ho2.slice (replied_bytes t y s (by omega))
  rw [replied_length] at hB2 hd2 ⊢
  have hB1 := hB1.belowSelf hb2
  have hbw1 := hb0.trans (hb1.mono hb0.size)
  have hbw := hbw1.trans (hb2.mono hbw1.size)
  clear ho2 c0 c1 hb1 hb2 hbw1 hbox hb0 hsz
  unfold maxLen at hdm1 hdm2
  have hE : ∀ j, j < 8 ∨ 16 ≤ j → (replied (noted t s) y).getD j 0 = (replied (noted t s) x).getD j 0 := fun j h => replied_else t y x s j h
  have hX : ∀ j, j < 8 → (replied (noted t s) x).getD (8 + j) 0 = (be8 (x % 18446744073709551616)).getD j 0 := fun j h => replied_zxid t x s j h
  have hY : ∀ j, j < 8 → (replied (noted t s) y).getD (8 + j) 0 = (be8 (y % 18446744073709551616)).getD j 0 := fun j h => replied_zxid t y s j h
  generalize replied (noted t s) x = F at *
  generalize replied (noted t s) y = G at *
  have HE : Hid (∀ j, j < 8 ∨ 16 ≤ j → G.getD j 0 = F.getD j 0) := hE
  have HX : Hid (∀ j, j < 8 → F.getD (8 + j) 0 = (be8 (x % 18446744073709551616)).getD j 0) := hX
  have HY : Hid (∀ j, j < 8 → G.getD (8 + j) 0 = (be8 (y % 18446744073709551616)).getD j 0) := hY
  clear hE hX hY
  have hsm : s.size ≤ 1048576 := by omega
  go_wp2
  go_loopw [12] (fun z wr => ∃ q k : Nat, q ≤ s.size + 32 ∧ wr = w2.drewN k ∧ z = .int .i64 q) (fun z _ => s.size + 32 - (intOf z).toNat)
  case atStart => exact ⟨0, 0, Nat.zero_le _, rfl, rfl⟩
  case round =>
    obtain ⟨q, k, hq, rfl, rfl⟩ := hrel
    by_cases hqn : q < s.size + 32
    · by_cases hmid : 8 ≤ q ∧ q < 16
      · obtain ⟨hm1, hm2⟩ := hmid
        go_wp2
        go_roundw
        case rel => exact ⟨q + 1, _, by omega, rfl, by go_num⟩
        case measure => simp [intOf]; omega
      · have hcx := hB1.cell q hqn
        have hcy := hB2.cell q hqn
        rw [show G.getD q 0 = F.getD q 0 from HE.out q (by omega), Nat.zero_add] at hcy
        rw [Nat.zero_add] at hcx
        obtain rfl := hB1.addr (by omega)
        obtain rfl := hB2.addr (by omega)
        by_cases h8 : q < 8
        · go_wp2
          go_quiet (fail)
          go_wp2
          go_roundw
          case rel => exact ⟨q + 1, _, by omega, by first | rfl | rw [World.drewN_drewN], by go_num⟩
          case measure => simp [intOf]; omega
        · have h16 : 16 ≤ q := by omega
          go_wp2
          go_quiet (fail)
          go_wp2
          go_roundw
          case rel => exact ⟨q + 1, _, by omega, by first | rfl | rw [World.drewN_drewN], by go_num⟩
          case measure => simp [intOf]; omega
    · go_wp2_with fail
      refine (read12 p1 q1 0 (s.size + 32) d1 _ 8 x _ (by omega) (by omega) hx0 hx1 (hB1.drewN k) HX.out).mono ?_
      rintro e w3 ⟨rfl, rfl⟩
      go_wp2_with fail
      refine (read12 p2 q2 0 (s.size + 32) d2 _ 8 y _ (by omega) (by omega) hy0 hy1 (hB2.drewN k) HY.out).mono ?_
      rintro e w3 ⟨rfl, rfl⟩
      go_wp2
      go_ret
      exact ⟨rfl, below_drewN hbw _⟩
end Go.Proofs.Qxb6616595a
