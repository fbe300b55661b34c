import Derived.Test.Qxb6617809aW11
namespace Go.Proofs.Qxb6617809a
open Go.RowKit

set_option maxHeartbeats 1000000 in
theorem bytes17 (aD aC : Option Addr) (bD offD nD capD bC offC nC capC : Nat) (D C : Nat → ByteArray) (x id : ByteArray) (w : World) (hnD : nD ≤ maxLen) (hnC : nC ≤ maxLen) (hx : x.size ≤ maxLen) (hid : id.size ≤ maxLen)
    (hD : Strs w aD bD offD nD D) (hC : Strs w aC bC offC nC C) :
    Calls Try.prog 17 #[.slice aD nD capD, .slice aC nC capC, .string x, .string id] w fun e w' => SomeBool e ∧ w = w' := by
  unfold maxLen at hnD hnC hid hx
  by_cases h20 : 1048576 < nD
  · go_enter Try.func17, Try.ntmps17
    go_wp2
    go_ret
    exact ⟨SomeBool.mk _, rfl⟩
  have hd1 : decide ((1048576 : Int) < (nD : Int)) = false := by simp; omega
  go_enter Try.func17, Try.ntmps17
  go_wp2
  go_loop [9, 10] (fun z i => ∃ (t : Int) (q : Nat), q ≤ nD ∧ 0 ≤ t ∧ t ≤ 1048576 ∧ z = .int .i64 t ∧ i = .int .i64 q) (fun _ i => nD - (intOf i).toNat)
  case atStart => exact ⟨_, 0, Nat.zero_le _, by omega, by omega, rfl, rfl⟩
  case round =>
    obtain ⟨t, q, hq, ht0, ht, rfl, rfl⟩ := hrel
    by_cases hlt : q < nD
    · have hcx := hD.cell q hlt
      have hsx := hD.size q hlt
      unfold maxLen at hsx
      obtain rfl := hD.addr (by omega)
      go_wp2
      · go_ret
        exact ⟨SomeBool.mk _, rfl⟩
      · go_ret
        exact ⟨SomeBool.mk _, rfl⟩
      · go_round
        case rel => exact ⟨_, q + 1, by omega, by omega, by omega, rfl, by go_num⟩
        case measure => simp [intOf]; omega
    · by_cases h21 : 1048576 < nC
      · go_wp2
        go_ret
        exact ⟨SomeBool.mk _, rfl⟩
      have hd2 : decide ((1048576 : Int) < (nC : Int)) = false := by simp; omega
      by_cases h22 : 1048576 < t + nC
      · go_wp2
        go_ret
        exact ⟨SomeBool.mk _, rfl⟩
      have hd3 : decide ((1048576 : Int) < t + (nC : Int)) = false := by simp; omega
      go_wp2
      go_loop [9, 11] (fun z i => ∃ (t : Int) (q : Nat), q ≤ nC ∧ 0 ≤ t ∧ t ≤ 1048576 ∧ z = .int .i64 t ∧ i = .int .i64 q) (fun _ i => nC - (intOf i).toNat)
      case atStart => exact ⟨_, 0, Nat.zero_le _, by omega, by omega, rfl, rfl⟩
      case round =>
        obtain ⟨t2, q2, hq2, ht02, ht2, rfl, rfl⟩ := hrel
        by_cases hlt2 : q2 < nC
        · have hcx := hC.cell q2 hlt2
          have hsx := hC.size q2 hlt2
          unfold maxLen at hsx
          obtain rfl := hC.addr (by omega)
          go_wp2
          · go_ret
            exact ⟨SomeBool.mk _, rfl⟩
          · go_ret
            exact ⟨SomeBool.mk _, rfl⟩
          · go_round
            case rel => exact ⟨_, q2 + 1, by omega, by omega, by omega, rfl, by go_num⟩
            case measure => simp [intOf]; omega
        · go_wp2
          all_goals
            go_ret
            exact ⟨SomeBool.mk _, rfl⟩


theorem hideIt {p : Prop} (h : p) : Hid p := h

/-- a block of three cells in every later world -/
theorem cells3 {W w' : World} {g : Nat} {x y z : Value} {t : TypeId} {fr : Nat × Nat} (hg : W.heap[g]? = some (.cells #[x, y, z] t fr)) (hb : Below W.heap.size W w') :
    w'.cell? ⟨g, 0, none⟩ = some x ∧ w'.cell? ⟨g, 1, none⟩ = some y ∧ w'.cell? ⟨g, 2, none⟩ = some z := by
  have h := (hb.block g (lt_of_block hg)).trans hg
  refine ⟨?_, ?_, ?_⟩ <;> rw [cell_of_row w' g _ _ t fr h] <;> rfl

set_option maxHeartbeats 4000000 in
set_option maxRecDepth 100000 in
theorem walk6 (aD aC : Option Addr) (bD offD nD capD bC offC nC capC : Nat) (D C : Nat → ByteArray) (x id : ByteArray) (w : World) (hD1 : nD ≤ capD) (hD2 : capD ≤ maxLen) (hC1 : nC ≤ capC) (hC2 : capC ≤ maxLen) (hx : x.size ≤ maxLen) (hid : id.size ≤ maxLen)
    (hD : Strs w aD bD offD nD D) (hC : Strs w aC bC offC nC C) :
    Calls Try.prog 6 #[.slice aD nD capD, .slice aC nC capC, .string x, .string id] w fun e w' => e = .returned (.bool true) ∧ Below w.heap.size w w' := by
  have hid' := hid
  have hx' := hx
  unfold maxLen at hD2 hC2 hid' hx'
  have hbytes := bytes17 aD aC bD offD nD capD bC offC nC capC D C x id w (by unfold maxLen; omega) (by unfold maxLen; omega) hx hid hD hC
  by_cases hbig : 65536 < nD ∨ 65536 < nC ∨ 1048576 < x.size ∨ 1048576 < id.size ∨ 1048576 < x.size + id.size
  · have hor : 65536 < nD ∨ (¬ 65536 < nD ∧ 65536 < nC) ∨ (¬ 65536 < nD ∧ ¬ 65536 < nC ∧ 1048576 < x.size) ∨ (¬ 65536 < nD ∧ ¬ 65536 < nC ∧ ¬ 1048576 < x.size ∧ 1048576 < id.size) ∨ (¬ 65536 < nD ∧ ¬ 65536 < nC ∧ ¬ 1048576 < x.size ∧ ¬ 1048576 < id.size ∧ 1048576 < x.size + id.size) := by omega
    clear hbig
    rcases hor with g1 | ⟨g1, g2⟩ | ⟨g1, g2, g3⟩ | ⟨g1, g2, g3, g4⟩ | ⟨g1, g2, g3, g4, g5⟩
    all_goals
      go_enter Try.func6, Try.ntmps6
      go_wp2_with fail
      refine hbytes.mono ?_
      rintro e w' ⟨⟨r, rfl⟩, rfl⟩
      cases r
      · go_wp2
        go_ret
        exact ⟨rfl, Below.refl _ _⟩
      · go_wp2
        go_ret
        exact ⟨rfl, Below.refl _ _⟩
  have hd1 : decide ((65536 : Int) < (nD : Int)) = false := by simp; omega
  have hd2 : decide ((65536 : Int) < (nC : Int)) = false := by simp; omega
  have hd3 : decide ((1048576 : Int) < (x.size : Int)) = false := by simp; omega
  have hd4 : decide ((1048576 : Int) < (id.size : Int)) = false := by simp; omega
  have hd5 : decide ((1048576 : Int) < (x.size : Int) + (id.size : Int)) = false := by simp; omega
  have hbig1 : nD ≤ 65536 := by omega
  have hbig2 : nC ≤ 65536 := by omega
  have hbig3 : x.size + id.size ≤ 1048576 := by omega
  clear hbig
  go_enter Try.func6, Try.ntmps6
  go_wp2_with fail
  refine hbytes.mono ?_
  rintro e w' ⟨⟨r, rfl⟩, rfl⟩
  cases r
  · go_wp2
    go_ret
    exact ⟨rfl, Below.refl _ _⟩
  go_wp2
  go_loop [9, 52] (fun z i => ∃ (t : Int) (q : Nat), q ≤ nD ∧ 0 ≤ t ∧ t ≤ 1048576 ∧ z = .int .i64 t ∧ i = .int .i64 q) (fun _ i => nD - (intOf i).toNat)
  case atStart => exact ⟨_, 0, Nat.zero_le _, by omega, by omega, rfl, rfl⟩
  case round =>
    obtain ⟨t, q, hq, ht0, ht, rfl, rfl⟩ := hrel
    by_cases hlt : q < nD
    · have hcx := hD.cell q hlt
      have hsx := hD.size q hlt
      unfold maxLen at hsx
      obtain rfl := hD.addr (by omega)
      go_wp2
      · go_ret
        exact ⟨rfl, Below.refl _ _⟩
      · go_ret
        exact ⟨rfl, Below.refl _ _⟩
      · go_round
        case rel => exact ⟨_, q + 1, by omega, by omega, by omega, rfl, by go_num⟩
        case measure => simp [intOf]; omega
    · go_wp2
      go_loop [9, 69] (fun z i => ∃ (t : Int) (q : Nat), q ≤ nC ∧ 0 ≤ t ∧ t ≤ 1048576 ∧ z = .int .i64 t ∧ i = .int .i64 q) (fun _ i => nC - (intOf i).toNat)
      case atStart => exact ⟨_, 0, Nat.zero_le _, by omega, by omega, rfl, rfl⟩
      case round =>
        obtain ⟨t2, q2, hq2, ht02, ht2, rfl, rfl⟩ := hrel
        by_cases hlt2 : q2 < nC
        · have hcx := hC.cell q2 hlt2
          have hsx := hC.size q2 hlt2
          unfold maxLen at hsx
          obtain rfl := hC.addr (by omega)
          go_wp2
          · go_ret
            exact ⟨rfl, Below.refl _ _⟩
          · go_ret
            exact ⟨rfl, Below.refl _ _⟩
          · go_round
            case rel => exact ⟨_, q2 + 1, by omega, by omega, by omega, rfl, by go_num⟩
            case measure => simp [intOf]; omega
        · go_wp2_with fail
          refine (byteSorted13b aD bD offD nD capD D _ (by omega) hD).mono ?_
          rintro e w1 ⟨⟨r1, rfl, hs1⟩, hb1⟩
          cases r1
          · go_wp2
            go_ret
            exact ⟨rfl, hb1⟩
          have sD := hs1 rfl
          have hC' := hC.belowSelf hb1
          have hD' := hD.belowSelf hb1
          go_wp2_with fail
          refine (byteSorted13b aC bC offC nC capC C _ (by omega) hC').mono ?_
          rintro e w2 ⟨⟨r2, rfl, hs2⟩, hb2⟩
          have hbw := hb1.trans (hb2.mono hb1.size)
          cases r2
          · go_wp2
            go_ret
            exact ⟨rfl, hbw⟩
          have sC := hs2 rfl
          have HC := hC'.belowSelf hb2
          have HD := hD'.belowSelf hb2
          clear hs1 hs2 hbytes hC' hD' hC hD hb1 hb2
          go_wp2_with fail
          have hbA : Below w2.heap.size w2 (w2.alloc (.cells #[.slice aD nD capD, .slice aC nC capC, .slice none 0 0] 30)) := (Below.refl _ _).alloc (Nat.le_refl _) _
          have hgA : (w2.alloc (.cells #[.slice aD nD capD, .slice aC nC capC, .slice none 0 0] 30)).heap[w2.heap.size]? = some (.cells #[.slice aD nD capD, .slice aC nC capC, .slice none 0 0] 30) := heap_alloc_new w2 _
          generalize w2.alloc (.cells #[.slice aD nD capD, .slice aC nC capC, .slice none 0 0] 30) = WA at hbA hgA ⊢
          refine (insert18 aC bC offC nC capC C x _ hbig2 hx (HC.belowSelf hbA) sC).mono ?_
          rintro e w3 ⟨v3, rfl, ⟨⟨TC, g3, rfl, hTC, sTC, mTC⟩, hb3⟩⟩
          have HC3 := (HC.belowSelf hbA).belowSelf hb3
          have HD3 := (HD.belowSelf hbA).belowSelf hb3
          have hgA3 := (hb3.block _ (lt_of_block hgA)).trans hgA
          have hbw3 := hbw.trans ((hbA.trans (hb3.mono hbA.size)).mono hbw.size)
          clear HC HD hgA hbA hb3 hbw
          go_wp2_with fail
          have hbB : Below w3.heap.size w3 (w3.alloc (.cells #[.slice aD nD capD, .slice (some ⟨g3, 0, none⟩) (nC + 1) (nC + 1), .slice none 0 0] 30)) := (Below.refl _ _).alloc (Nat.le_refl _) _
          have hgB : (w3.alloc (.cells #[.slice aD nD capD, .slice (some ⟨g3, 0, none⟩) (nC + 1) (nC + 1), .slice none 0 0] 30)).heap[w3.heap.size]? = some (.cells #[.slice aD nD capD, .slice (some ⟨g3, 0, none⟩) (nC + 1) (nC + 1), .slice none 0 0] 30) := heap_alloc_new w3 _
          generalize w3.alloc (.cells #[.slice aD nD capD, .slice (some ⟨g3, 0, none⟩) (nC + 1) (nC + 1), .slice none 0 0] 30) = WB at hbB hgB ⊢
          refine (insert18 aD bD offD nD capD D x _ hbig1 hx (HD3.belowSelf hbB) sD).mono ?_
          rintro e w4 ⟨v4, rfl, ⟨⟨TD, g4, rfl, hTD, sTD, mTD⟩, hb4⟩⟩
          have HC4 := (HC3.belowSelf hbB).belowSelf hb4
          have HD4 := (HD3.belowSelf hbB).belowSelf hb4
          have hTC4 := (hTC.belowSelf hbB).belowSelf hb4
          have hgA4 := (hb4.block _ (Nat.lt_of_lt_of_le (lt_of_block hgA3) hbB.size)).trans ((hbB.block _ (lt_of_block hgA3)).trans hgA3)
          have hgB4 := (hb4.block _ (lt_of_block hgB)).trans hgB
          have hbw4 := hbw3.trans ((hbB.trans (hb4.mono hbB.size)).mono hbw3.size)
          clear HC3 HD3 hTC hgA3 hgB hbB hb4 hbw3
          go_wp2_with fail
          have hbC : Below w4.heap.size w4 (w4.alloc (.cells #[.slice (some ⟨g4, 0, none⟩) (nD + 1) (nD + 1), .slice aC nC capC, .slice none 0 0] 30)) := (Below.refl _ _).alloc (Nat.le_refl _) _
          have hgC : (w4.alloc (.cells #[.slice (some ⟨g4, 0, none⟩) (nD + 1) (nD + 1), .slice aC nC capC, .slice none 0 0] 30)).heap[w4.heap.size]? = some (.cells #[.slice (some ⟨g4, 0, none⟩) (nD + 1) (nD + 1), .slice aC nC capC, .slice none 0 0] 30) := heap_alloc_new w4 _
          generalize w4.alloc (.cells #[.slice (some ⟨g4, 0, none⟩) (nD + 1) (nD + 1), .slice aC nC capC, .slice none 0 0] 30) = W at hbC hgC ⊢
          have HC5 := HC4.belowSelf hbC
          have HD5 := HD4.belowSelf hbC
          have hTC5 := hTC4.belowSelf hbC
          have hTD5 := hTD.belowSelf hbC
          have hgA5 := (hbC.block _ (lt_of_block hgA4)).trans hgA4
          have hgB5 := (hbC.block _ (lt_of_block hgB4)).trans hgB4
          have hbw5 := hbw4.trans (hbC.mono hbw4.size)
          clear HC4 HD4 hTC4 hTD hgA4 hgB4 hbC hbw4
          -- what the three verdicts answer, in every later world
          have tA : ∀ W', Below W.heap.size W W' → ∀ y, Calls Try.prog 14 #[.agg #[.slice aD nD capD, .slice aC nC capC, .slice none 0 0], .string y] W' fun e w' => e = .returned (.int .u8 (statusOf (inB C nC y) (inB D nD y))) ∧ Below W.heap.size W w' := fun W' h y =>
            (status14 aD aC bD offD nD capD bC offC nC capC D C _ y W' (by omega) (by omega) (HD5.belowSelf h) (HC5.belowSelf h) sD sC).mono fun _ _ ⟨h1, h2⟩ => ⟨h1, h.trans (h2.mono h.size)⟩
          have tB : ∀ W', Below W.heap.size W W' → ∀ y, Calls Try.prog 14 #[.agg #[.slice aD nD capD, .slice (some ⟨g3, 0, none⟩) (nC + 1) (nC + 1), .slice none 0 0], .string y] W' fun e w' => e = .returned (.int .u8 (statusOf (inB C nC y || decide (x = y)) (inB D nD y))) ∧ Below W.heap.size W w' := fun W' h y => by
            rw [← mTC y]
            exact (status14 aD _ bD offD nD capD g3 0 (nC + 1) (nC + 1) D TC _ y W' (by omega) (by omega) (HD5.belowSelf h) (hTC5.belowSelf h) sD sTC).mono fun _ _ ⟨h1, h2⟩ => ⟨h1, h.trans (h2.mono h.size)⟩
          have tC : ∀ W', Below W.heap.size W W' → ∀ y, Calls Try.prog 14 #[.agg #[.slice (some ⟨g4, 0, none⟩) (nD + 1) (nD + 1), .slice aC nC capC, .slice none 0 0], .string y] W' fun e w' => e = .returned (.int .u8 (statusOf (inB C nC y) (inB D nD y || decide (x = y)))) ∧ Below W.heap.size W w' := fun W' h y => by
            rw [← mTD y]
            exact (status14 _ aC g4 0 (nD + 1) (nD + 1) bC offC nC capC TD C _ y W' (by omega) (by omega) (hTD5.belowSelf h) (HC5.belowSelf h) sTD sC).mono fun _ _ ⟨h1, h2⟩ => ⟨h1, h.trans (h2.mono h.size)⟩
          have cA := fun W' (h : Below W.heap.size W W') => cells3 hgA5 h
          have cB := fun W' (h : Below W.heap.size W W') => cells3 hgB5 h
          have cC := fun W' (h : Below W.heap.size W W') => cells3 hgC h
          have TA : Hid (∀ W', Below W.heap.size W W' → ∀ y, Calls Try.prog 14 #[.agg #[.slice aD nD capD, .slice aC nC capC, .slice none 0 0], .string y] W' fun e w' => e = .returned (.int .u8 (statusOf (inB C nC y) (inB D nD y))) ∧ Below W.heap.size W w') := tA
          have TB : Hid (∀ W', Below W.heap.size W W' → ∀ y, Calls Try.prog 14 #[.agg #[.slice aD nD capD, .slice (some ⟨g3, 0, none⟩) (nC + 1) (nC + 1), .slice none 0 0], .string y] W' fun e w' => e = .returned (.int .u8 (statusOf (inB C nC y || decide (x = y)) (inB D nD y))) ∧ Below W.heap.size W w') := tB
          have TC' : Hid (∀ W', Below W.heap.size W W' → ∀ y, Calls Try.prog 14 #[.agg #[.slice (some ⟨g4, 0, none⟩) (nD + 1) (nD + 1), .slice aC nC capC, .slice none 0 0], .string y] W' fun e w' => e = .returned (.int .u8 (statusOf (inB C nC y) (inB D nD y || decide (x = y)))) ∧ Below W.heap.size W w') := tC
          have CA : Hid (∀ W', Below W.heap.size W W' → W'.cell? ⟨w2.heap.size, 0, none⟩ = some (.slice aD nD capD) ∧ W'.cell? ⟨w2.heap.size, 1, none⟩ = some (.slice aC nC capC) ∧ W'.cell? ⟨w2.heap.size, 2, none⟩ = some (.slice none 0 0)) := cA
          have CB : Hid (∀ W', Below W.heap.size W W' → W'.cell? ⟨w3.heap.size, 0, none⟩ = some (.slice aD nD capD) ∧ W'.cell? ⟨w3.heap.size, 1, none⟩ = some (.slice (some ⟨g3, 0, none⟩) (nC + 1) (nC + 1)) ∧ W'.cell? ⟨w3.heap.size, 2, none⟩ = some (.slice none 0 0)) := cB
          have CC : Hid (∀ W', Below W.heap.size W W' → W'.cell? ⟨w4.heap.size, 0, none⟩ = some (.slice (some ⟨g4, 0, none⟩) (nD + 1) (nD + 1)) ∧ W'.cell? ⟨w4.heap.size, 1, none⟩ = some (.slice aC nC capC) ∧ W'.cell? ⟨w4.heap.size, 2, none⟩ = some (.slice none 0 0)) := cC
          refine (containsID15 aC bC offC nC capC C x _ (by unfold maxLen; omega) HC5).mono ?_
          rintro e w5 ⟨rfl, rfl⟩
          clear tA tB tC cA cB cC hgA5 hgB5 hgC HC5 HD5 hTC5 hTD5 sC sD sTC sTD mTC mTD
          cases hcx : inB C nC x
          ·
            have e1 : statusOf (inB C nC x || decide (x = x)) (inB D nD x) = 2 := by simp [statusOf]
            have e2 : statusOf (inB C nC x) (inB D nD x || decide (x = x)) = 1 := by rw [hcx]; simp [statusOf]
            have u1 := fun W' h => TB.out W' h x
            have u2 := fun W' h => TC'.out W' h x
            rw [e1] at u1
            rw [e2] at u2
            have U1 := hideIt u1
            have U2 := hideIt u2
            clear e1 e2 hcx u1 u2
            obtain ⟨b0, b1, b2⟩ := CB.out W (Below.refl _ _)
            go_wp2_with fail
            refine (U1.out W (Below.refl _ _)).mono ?_
            rintro e w6 ⟨rfl, hb6⟩
            clear b0 b1 b2
            obtain ⟨c0, c1, c2⟩ := CC.out w6 hb6
            go_wp2_with fail
            refine (U2.out w6 hb6).mono ?_
            rintro e w7 ⟨rfl, hb7⟩
            clear c0 c1 c2
            by_cases hid : id = x
            · have hbq : (id.toList == x.toList) = true := by rw [hid]; simp
              clear hid
              go_wp2
              go_ret
              exact ⟨rfl, hbw5.trans (hb7.mono hbw5.size)⟩
            · have hbq : (id.toList == x.toList) = false := (Lib.bytes_beq_false_iff _ _).2 hid
              have hne : decide (x = id) = false := by simpa using fun e => hid e.symm
              obtain ⟨a0, a1, a2⟩ := CA.out w7 hb7
              have t1 := TA.out w7 hb7 id
              have t2 := fun w' h => TB.out w' h id
              have t3 := fun w' h => TC'.out w' h id
              rw [hne, Bool.or_false] at t2 t3
              generalize statusOf (inB C nC id) (inB D nD id) = sv at t1 t2 t3
              have T1 := hideIt t1
              have T2 := hideIt t2
              have T3 := hideIt t3
              clear t1 t2 t3 hid hne
              go_wp2_with fail
              refine (T1.out).mono ?_
              rintro e w8 ⟨rfl, hb8⟩
              clear a0 a1 a2
              obtain ⟨b0, b1, b2⟩ := CB.out w8 hb8
              go_wp2_with fail
              refine (T2.out w8 hb8).mono ?_
              rintro e w9 ⟨rfl, hb9⟩
              clear b0 b1 b2
              obtain ⟨c0, c1, c2⟩ := CC.out w9 hb9
              go_wp2_with fail
              refine (T3.out w9 hb9).mono ?_
              rintro e w10 ⟨rfl, hb10⟩
              go_wp2
              go_ret
              exact ⟨by simp, hbw5.trans (hb10.mono hbw5.size)⟩
          ·
            have e1 : statusOf (inB C nC x || decide (x = x)) (inB D nD x) = 2 := by simp [statusOf]
            have e2 : statusOf (inB C nC x) (inB D nD x || decide (x = x)) = 2 := by rw [hcx]; simp [statusOf]
            have u1 := fun W' h => TB.out W' h x
            have u2 := fun W' h => TC'.out W' h x
            rw [e1] at u1
            rw [e2] at u2
            have U1 := hideIt u1
            have U2 := hideIt u2
            clear e1 e2 hcx u1 u2
            obtain ⟨b0, b1, b2⟩ := CB.out W (Below.refl _ _)
            go_wp2_with fail
            refine (U1.out W (Below.refl _ _)).mono ?_
            rintro e w6 ⟨rfl, hb6⟩
            clear b0 b1 b2
            obtain ⟨c0, c1, c2⟩ := CC.out w6 hb6
            go_wp2_with fail
            refine (U2.out w6 hb6).mono ?_
            rintro e w7 ⟨rfl, hb7⟩
            clear c0 c1 c2
            by_cases hid : id = x
            · have hbq : (id.toList == x.toList) = true := by rw [hid]; simp
              clear hid
              go_wp2
              go_ret
              exact ⟨rfl, hbw5.trans (hb7.mono hbw5.size)⟩
            · have hbq : (id.toList == x.toList) = false := (Lib.bytes_beq_false_iff _ _).2 hid
              have hne : decide (x = id) = false := by simpa using fun e => hid e.symm
              obtain ⟨a0, a1, a2⟩ := CA.out w7 hb7
              have t1 := TA.out w7 hb7 id
              have t2 := fun w' h => TB.out w' h id
              have t3 := fun w' h => TC'.out w' h id
              rw [hne, Bool.or_false] at t2 t3
              generalize statusOf (inB C nC id) (inB D nD id) = sv at t1 t2 t3
              have T1 := hideIt t1
              have T2 := hideIt t2
              have T3 := hideIt t3
              clear t1 t2 t3 hid hne
              go_wp2_with fail
              refine (T1.out).mono ?_
              rintro e w8 ⟨rfl, hb8⟩
              clear a0 a1 a2
              obtain ⟨b0, b1, b2⟩ := CB.out w8 hb8
              go_wp2_with fail
              refine (T2.out w8 hb8).mono ?_
              rintro e w9 ⟨rfl, hb9⟩
              clear b0 b1 b2
              obtain ⟨c0, c1, c2⟩ := CC.out w9 hb9
              go_wp2_with fail
              refine (T3.out w9 hb9).mono ?_
              rintro e w10 ⟨rfl, hb10⟩
              go_wp2
              go_ret
              exact ⟨by simp, hbw5.trans (hb10.mono hbw5.size)⟩
end Go.Proofs.Qxb6617809a
