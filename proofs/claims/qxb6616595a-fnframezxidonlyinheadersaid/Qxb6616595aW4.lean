import Derived.Test.Qxb6616595aW3
namespace Go.Proofs.Qxb6616595a
open Go.RowKit

theorem Owns.nil {w : World} {B : Nat} {a : Option Addr} {n c : Nat} {L : List Int} (h : Owns w B (.slice a n c) L) : a = none → n = 0 ∧ c = 0 := by
  intro e
  rcases h.2 with ⟨h1, _⟩ | ⟨g', cap, cur, h1, _⟩
  · simp at h1; exact ⟨h1.2.1, h1.2.2⟩
  · simp at h1; rw [e] at h1; cases h1.1

theorem elem22 : Try.prog.underlying 22 = some (.slice (Try.prog.elem 22)) := by kernel_rfl
theorem run_size5 (w : World) : (sizeOf (Try.prog.elem 22)).run Try.prog w = .ok 1 w := by kernel_rfl

/-- 'b[:k]' -/
theorem cut_head (a : Option Addr) (b off n cap k : Nat) (f : Nat → Int) (hk : k ≤ n) (hn : n ≤ cap) :
    ∃ a', (∀ w, (Instr.sliceAt 22 (.slice a n cap) none (some (.int .i64 k)) none).run Try.prog w = .ok (.slice a' k cap) w) ∧ ∀ w, Bys w a b off n f → Bys w a' b off k f := by
  refine ⟨if cap = 0 then a else a.map (·.add (0 * 1)), fun w => ?_, fun w h => ?_⟩
  · rw [run_sliceAt_slice w 22 _ _ _ _ elem22, run_slice_h w 22 a n cap elem22 .i64 k (by omega) (by omega), run_size5]
    simp [Result.andThen, sliced]
  · refine ⟨fun h0 => ?_, fun j hj => h.cell j (by omega), fun h0 => h.lt (by omega), fun j hj => h.byte j (by omega)⟩
    rw [if_neg (by omega), h.addr (by omega)]
    rfl

theorem Bytes.append {L M : List Int} (h : Bytes L) (h' : Bytes M) : Bytes (L ++ M) := fun x hx => by
  rcases List.mem_append.1 hx with h1 | h1
  · exact h x h1
  · exact h' x h1
theorem bytes_listOf {f : Nat → Int} {n : Nat} (h : ∀ j, j < n → 0 ≤ f j ∧ f j ≤ 255) : Bytes (listOf f n) := by
  intro x hx
  simp only [listOf, List.mem_map, List.mem_range] at hx
  obtain ⟨j, hj, rfl⟩ := hx
  exact h j hj

theorem Bys.congr {w : World} {a : Option Addr} {b off n : Nat} {f g : Nat → Int} (h : Bys w a b off n f) (e : ∀ j, j < n → g j = f j) : Bys w a b off n g :=
  ⟨h.addr, fun j hj => by rw [e j hj]; exact h.cell j hj, h.lt, fun j hj => by rw [e j hj]; exact h.byte j hj⟩

/-- the halves of a long, each as Int writes it -/
theorem high_half (x : Int) : x / 4294967296 % 4294967296 = x % 18446744073709551616 / 4294967296 := by omega
theorem low_half (x : Int) : wrap32 x % 4294967296 = x % 18446744073709551616 % 4294967296 := by unfold wrap32; omega
theorem two_ints (x : Int) : be8 (x % 18446744073709551616) = be4 (x / 4294967296 % 4294967296) ++ be4 (wrap32 x % 4294967296) := by
  rw [be8_split, high_half, low_half]

theorem getD_mid (L M R : List Int) (j : Nat) (h : j < M.length) : (L ++ M ++ R).getD (L.length + j) 0 = M.getD j 0 := by
  simp [List.getD, List.append_assoc, List.getElem?_append_right, List.getElem?_append_left h]

set_option maxHeartbeats 4000000 in
set_option maxRecDepth 100000 in
theorem walk3 (a : Option Addr) (b off n cap : Nat) (f : Nat → Int) (x y : Int) (w : World) (hnc : n ≤ cap) (hcm : cap ≤ maxLen) (hnil : a = none → cap = 0) (hs : Bys w a b off n f)
    (hx0 : -9223372036854775808 ≤ x) (hx1 : x < 9223372036854775808) (hy0 : -9223372036854775808 ≤ y) (hy1 : y < 9223372036854775808) :
    Calls Try.prog 3 #[.slice a n cap, .int .i64 x, .int .i64 y] w fun e w' => e = .returned (.bool true) ∧ Below w.heap.size w w' := by
  have hcm' := hcm
  unfold maxLen at hcm'
  have hbytes := bytes5 a n cap x y w (by omega)
  by_cases hbig : 1048576 < n
  · go_enter Try.func3, Try.ntmps3
    go_wp2_with fail
    refine hbytes.mono ?_
    rintro e w' ⟨⟨r, rfl⟩, rfl⟩
    cases r
    · go_wp2
      go_ret
      exact ⟨rfl, Below.refl _ _⟩
    · go_wp2
      go_ret
      exact ⟨rfl, Below.refl _ _⟩
  go_enter Try.func3, Try.ntmps3
  go_wp2_with fail
  refine hbytes.mono ?_
  rintro e w' ⟨⟨r, rfl⟩, rfl⟩
  cases r
  · go_wp2
    go_ret
    exact ⟨rfl, Below.refl _ _⟩
  go_wp2_with fail
  · go_ret
    exact ⟨rfl, Below.refl _ _⟩
  clear hbytes
  -- prefix = zzClone(prefix)
  refine (clone6 a b off n cap f _ (by omega) (fun e => by have := hnil e; omega) hs).mono ?_
  rintro e w1 ⟨⟨v0, rfl, ho0⟩, hb1⟩
  have hL : Bytes (listOf f n) := bytes_listOf hs.byte
  have hlen := listOf_length f n
  generalize listOf f n = L at ho0 hL hlen
  subst hlen
  obtain ⟨a0, g0, c0, rfl, hc0, hm0, hy0', -⟩ := ho0.slice hL
  have hnil0 := ho0.nil
  clear hs hnil hnc ho0
  -- keep := zzClone(prefix)
  go_wp2_with fail
  refine (clone6 a0 g0 0 L.length c0 _ _ (by omega) hnil0 hy0').mono ?_
  rintro e w2 ⟨⟨v1, rfl, ho1⟩, hb2⟩
  rw [listOf_self] at ho1
  obtain ⟨a1, g1, c1, rfl, hc1, hm1, hk2, -⟩ := ho1.slice hL
  have hp2 := hy0'.belowSelf hb2
  have hbw2 := hb1.trans (hb2.mono hb1.size)
  clear ho1 hb1 hb2 hy0'
  -- e1 := ZZnewEncoder(zzClone(prefix))
  go_wp2_with fail
  refine (clone6 a0 g0 0 L.length c0 _ _ (by omega) hnil0 hp2).mono ?_
  rintro e w3 ⟨⟨v2, rfl, ho2⟩, hb3⟩
  rw [listOf_self] at ho2
  have hp3 := hp2.belowSelf hb3
  have hk3 := hk2.belowSelf hb3
  have hsz3 := hb3.size
  have hbw3 := hbw2.trans (hb3.mono hbw2.size)
  go_wp2_with fail
  refine (newEncoder7 w2.heap.size v2 L _ ho2 hsz3).mono ?_
  rintro e w4 ⟨rfl, hE4, hb4⟩
  have hsz4 := hb4.size
  have hp4 := hp3.belowSelf hb4
  have hk4 := hk3.belowSelf hb4
  have hbw4 := hbw3.trans (hb4.mono hbw3.size)
  have hP : 0 < L.length → g0 < w2.heap.size := hp2.lt
  have hw2 : w.heap.size ≤ w2.heap.size := hbw2.size
  have hK : 0 < L.length → g1 < w2.heap.size := hk2.lt
  clear ho2 hp2 hk2 hp3 hk3 hb3 hb4 hbw2 hbw3
  -- e1.Long(x); e1.Long(y)
  go_wp2_with fail
  refine (long8 w2.heap.size w3.heap.size L x _ hE4 (by omega) (by omega)).mono ?_
  rintro e w5 ⟨rfl, hE5, hb5⟩
  have hsz5 := hb5.size
  go_wp2_with fail
  refine (long8 w2.heap.size w3.heap.size _ y _ hE5 (by omega) (by simp [be8]; omega)).mono ?_
  rintro e w6 ⟨rfl, hE6, hb6⟩
  have hsz6 := hb6.size
  have hp6 := (hp4.below hb5 hP).below hb6 hP
  have hk6 := (hk4.below hb5 hK).below hb6 hK
  have hbw6 := (hbw4.trans (hb5.mono hw2)).trans (hb6.mono hw2)
  clear hE4 hE5 hp4 hk4 hb5 hb6 hbw4
  -- e2 := ZZnewEncoder(zzClone(prefix))
  go_wp2_with fail
  refine (clone6 a0 g0 0 L.length c0 _ _ (by omega) hnil0 hp6).mono ?_
  rintro e w7 ⟨⟨v3, rfl, ho7⟩, hb7⟩
  rw [listOf_self] at ho7
  have hsz7 := hb7.size
  go_wp2_with fail
  refine (newEncoder7 w6.heap.size v3 L _ ho7 hsz7).mono ?_
  rintro e w8 ⟨rfl, hE8, hb8⟩
  have hsz8 := hb8.size
  have hb68 := hb7.trans (hb8.mono hsz7)
  clear ho7 hb7 hb8 hp6
  -- the four Ints
  go_wp2_with fail
  refine (int9 w6.heap.size w7.heap.size L _ _ hE8 (by omega) (by omega)).mono ?_
  rintro e w9 ⟨rfl, hE9, hb9⟩
  have hsz9 := hb9.size
  go_wp2_with fail
  refine (int9 w6.heap.size w7.heap.size _ _ _ hE9 (by omega) (by simp [be4]; omega)).mono ?_
  rintro e w10 ⟨rfl, hE10, hb10⟩
  have hsz10 := hb10.size
  go_wp2_with fail
  refine (int9 w6.heap.size w7.heap.size _ _ _ hE10 (by omega) (by simp [be4]; omega)).mono ?_
  rintro e w11 ⟨rfl, hE11, hb11⟩
  have hsz11 := hb11.size
  go_wp2_with fail
  refine (int9 w6.heap.size w7.heap.size _ _ _ hE11 (by omega) (by simp [be4]; omega)).mono ?_
  rintro e w12 ⟨rfl, hE12, hb12⟩
  have hb612 := ((((hb68.trans hb9).trans hb10).trans hb11).trans hb12)
  have hE1 := hE6.below hb612 (Nat.le_refl _)
  have hk12 := hk6.belowSelf hb612
  have hbw12 := hbw6.trans (hb612.mono hbw6.size)
  clear hE6 hE8 hE9 hE10 hE11 hb68 hb9 hb10 hb11 hb12 hb612 hk6 hbw6
  have e12 : L ++ be4 (x / 4294967296 % 4294967296) ++ be4 (wrap32 x % 4294967296) ++ be4 (y / 4294967296 % 4294967296) ++ be4 (wrap32 y % 4294967296) = L ++ be8 (x % 18446744073709551616) ++ be8 (y % 18446744073709551616) := by
    rw [two_ints x, two_ints y]; simp only [List.append_assoc]
  rw [e12] at hE12
  clear e12
  have hM : Bytes (L ++ be8 (x % 18446744073709551616) ++ be8 (y % 18446744073709551616)) := (hL.append (be8_bytes _ (by omega) (by omega))).append (be8_bytes _ (by omega) (by omega))
  have hMl : (L ++ be8 (x % 18446744073709551616) ++ be8 (y % 18446744073709551616)).length = L.length + 16 := by simp [be8]
  have hx8 : ∀ j, j < 8 → (L ++ be8 (x % 18446744073709551616) ++ be8 (y % 18446744073709551616)).getD (L.length + j) 0 = (be8 (x % 18446744073709551616)).getD j 0 := fun j hj => getD_mid L (be8 (x % 18446744073709551616)) (be8 (y % 18446744073709551616)) j hj
  have hy8 : ∀ j, j < 8 → (L ++ be8 (x % 18446744073709551616) ++ be8 (y % 18446744073709551616)).getD (L.length + 8 + j) 0 = (be8 (y % 18446744073709551616)).getD j 0 := fun j hj => by
    have := getD_mid (L ++ be8 (x % 18446744073709551616)) (be8 (y % 18446744073709551616)) [] j hj
    rw [List.append_nil, List.length_append] at this
    exact this
  have hpre : ∀ j, j < L.length → (L ++ be8 (x % 18446744073709551616) ++ be8 (y % 18446744073709551616)).getD j 0 = L.getD j 0 := fun j hj => by
    simp [List.getD, List.append_assoc, List.getElem?_append_left hj]
  generalize L ++ be8 (x % 18446744073709551616) ++ be8 (y % 18446744073709551616) = M at hE1 hE12 hM hMl hx8 hy8 hpre
  -- b1 := ZZencoderBuf(e1); b2 := ZZencoderBuf(e2)
  go_wp2_with fail
  refine (encoderBuf10 w2.heap.size w3.heap.size M _ hE1).mono ?_
  rintro e w13 ⟨⟨u1, rfl, hu1⟩, rfl⟩
  go_wp2_with fail
  refine (encoderBuf10 w6.heap.size w7.heap.size M _ hE12).mono ?_
  rintro e w13 ⟨⟨u2, rfl, hu2⟩, rfl⟩
  obtain ⟨p1, q1, d1, rfl, hd1, hdm1, hB1, -⟩ := hu1.slice hM
  obtain ⟨p2, q2, d2, rfl, hd2, hdm2, hB2, -⟩ := hu2.slice hM
  rw [hMl] at hB1 hB2 hd1 hd2 ⊢
  clear hE1 hE12 hu1 hu2
  obtain ⟨p3, r3, s3⟩ := cut_head p1 q1 0 (L.length + 16) d1 L.length (fun j => M.getD j 0) (by omega) hd1
  have hB3 := (s3 _ hB1).congr (fun j hj => (hpre j hj).symm)
  clear s3
  go_wp2_with fail
  refine (equal11 p3 a1 q1 0 g1 0 L.length d1 c1 _ _ (by unfold maxLen; omega) hB3 hk12).mono ?_
  rintro e w14 ⟨rfl, hb14⟩
  have hB14 := hB1.belowSelf hb14
  have hB14' := hB2.belowSelf hb14
  have hbw14 := hbw12.trans (hb14.mono hbw12.size)
  clear hB1 hB2 hB3 hb14 hbw12 hk12
  go_wp2_with fail
  refine (read12 p1 q1 0 (L.length + 16) d1 _ L.length x _ (by omega) (by omega) hx0 hx1 hB14 hx8).mono ?_
  rintro e w15 ⟨rfl, rfl⟩
  go_wp2_with fail
  refine (read12 p1 q1 0 (L.length + 16) d1 _ (L.length + 8) y _ (by omega) (by omega) hy0 hy1 hB14 hy8).mono ?_
  rintro e w15 ⟨rfl, rfl⟩
  go_wp2_with fail
  refine (equal11 p1 p2 q1 0 q2 0 (L.length + 16) d1 d2 _ _ (by unfold maxLen; omega) hB14 hB14').mono ?_
  rintro e w16 ⟨rfl, hb16⟩
  go_wp2
  go_ret
  exact ⟨rfl, hbw14.trans (hb16.mono hbw14.size)⟩
end Go.Proofs.Qxb6616595a
