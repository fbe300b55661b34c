import Derived.Test.Qxb6617809aW9
namespace Go.Proofs.Qxb6617809a
open Go.RowKit

theorem inB_split (S : Nat → ByteArray) (n k : Nat) (x : ByteArray) (hk : k ≤ n) : inB S n x = (inB S k x || inB (fun j => S (k + j)) (n - k) x) := by
  rw [Bool.eq_iff_iff, Bool.or_eq_true, inB_iff, inB_iff, inB_iff]
  constructor
  · rintro ⟨j, hj, e⟩
    rcases Nat.lt_or_ge j k with h | h
    · exact .inl ⟨j, h, e⟩
    · exact .inr ⟨j - k, by omega, by rw [show k + (j - k) = j by omega]; exact e⟩
  · rintro (⟨j, hj, e⟩ | ⟨j, hj, e⟩)
    · exact ⟨j, by omega, e⟩
    · exact ⟨k + j, by omega, e⟩

theorem status_greater (c1 c2 d1 d2 : Bool) : statusOf (c1 || c2) (d1 || d2) = if statusOf c2 d2 < statusOf c1 d1 then statusOf c1 d1 else statusOf c2 d2 := by
  cases c1 <;> cases c2 <;> cases d1 <;> cases d2 <;> rfl

theorem SortedS.head {S : Nat → ByteArray} {n k : Nat} (h : SortedS S n) (hk : k ≤ n) : SortedS S k := fun i j hij hj => h i j hij (by omega)
theorem SortedS.tail {S : Nat → ByteArray} {n k : Nat} (h : SortedS S n) (hk : k ≤ n) : SortedS (fun j => S (k + j)) (n - k) := fun i j hij hj => h (k + i) (k + j) (by omega) (by omega)

/-- a block of three cells, not frozen or whatever, in every later world -/
theorem cells_three {W w' : World} {g : Nat} {x y z : Value} {t : TypeId} {fr : Nat × Nat} (hg : W.heap[g]? = some (.cells #[x, y, z] t fr)) (hb : Below W.heap.size W w') :
    w'.cell? ⟨g, 0, none⟩ = some x ∧ w'.cell? ⟨g, 1, none⟩ = some y ∧ w'.cell? ⟨g, 2, none⟩ = some z := by
  have h := (hb.block g (lt_of_block hg)).trans hg
  refine ⟨?_, ?_, ?_⟩ <;> rw [cell_of_row w' g _ _ t fr h] <;> rfl

theorem three_blocks (w2 : World) (o1 o2 o3 : Obj) : (((w2.alloc o1).alloc o2).alloc o3).drew.drew.heap[w2.heap.size + 1]? = some o2 ∧ (((w2.alloc o1).alloc o2).alloc o3).drew.drew.heap[w2.heap.size + 1 + 1]? = some o3 ∧
    Below w2.heap.size w2 (((w2.alloc o1).alloc o2).alloc o3).drew.drew := by
  refine ⟨?_, ?_, ((((Below.refl _ _).alloc (Nat.le_refl _) _).alloc (by simp) _).alloc (by simp; omega) _).drew.drew⟩
  · show (((w2.heap.push o1).push o2).push o3)[w2.heap.size + 1]? = _
    rw [Array.getElem?_push, if_neg (by simp), Array.getElem?_push, if_pos (by simp)]
  · show (((w2.heap.push o1).push o2).push o3)[w2.heap.size + 1 + 1]? = _
    rw [Array.getElem?_push, if_pos (by simp)]

set_option maxHeartbeats 4000000 in
set_option maxRecDepth 100000 in
theorem walk5 (aD aC : Option Addr) (bD offD nD capD bC offC nC capC : Nat) (D C : Nat → ByteArray) (k m : Int) (id : ByteArray) (w : World) (hD1 : nD ≤ capD) (hD2 : capD ≤ maxLen) (hC1 : nC ≤ capC) (hC2 : capC ≤ maxLen) (hid : id.size ≤ maxLen)
    (hD : Strs w aD bD offD nD D) (hC : Strs w aC bC offC nC C) :
    Calls Try.prog 5 #[.slice aD nD capD, .slice aC nC capC, .int .i64 k, .int .i64 m, .string id] w fun e w' => e = .returned (.bool true) ∧ Below w.heap.size w w' := by
  have hid' := hid
  unfold maxLen at hD2 hC2 hid'
  have hbytes := bytes12 aD aC bD offD nD capD bC offC nC capC D C k m id w (by unfold maxLen; omega) (by unfold maxLen; omega) hid hD hC
  by_cases hbig : 65536 < nD ∨ 65536 < nC ∨ 1048576 < id.size
  · by_cases g1 : 65536 < nD
    · go_enter Try.func5, Try.ntmps5
      go_wp2_with fail
      refine hbytes.mono ?_
      rintro e w' ⟨⟨r, rfl⟩, rfl⟩
      cases r
      · go_wp2
        go_ret
        exact ⟨rfl, Below.refl _ _⟩
      · go_wp2
        go_ret
        exact ⟨rfl, Below.refl _ _⟩
    · by_cases g2 : 65536 < nC
      · go_enter Try.func5, Try.ntmps5
        go_wp2_with fail
        refine hbytes.mono ?_
        rintro e w' ⟨⟨r, rfl⟩, rfl⟩
        cases r
        · go_wp2
          go_ret
          exact ⟨rfl, Below.refl _ _⟩
        · go_wp2
          go_ret
          exact ⟨rfl, Below.refl _ _⟩
      · go_enter Try.func5, Try.ntmps5
        go_wp2_with fail
        refine hbytes.mono ?_
        rintro e w' ⟨⟨r, rfl⟩, rfl⟩
        cases r
        · go_wp2
          go_ret
          exact ⟨rfl, Below.refl _ _⟩
        · go_wp2
          go_ret
          exact ⟨rfl, Below.refl _ _⟩
  have hd1 : decide ((65536 : Int) < (nD : Int)) = false := by simp; omega
  have hd2 : decide ((65536 : Int) < (nC : Int)) = false := by simp; omega
  have hd3 : decide ((1048576 : Int) < (id.size : Int)) = false := by simp; omega
  have hbig1 : nD ≤ 65536 := by omega
  have hbig2 : nC ≤ 65536 := by omega
  have hbig3 : id.size ≤ 1048576 := by omega
  clear hbig
  go_enter Try.func5, Try.ntmps5
  go_wp2_with fail
  refine hbytes.mono ?_
  rintro e w' ⟨⟨r, rfl⟩, rfl⟩
  cases r
  · go_wp2
    go_ret
    exact ⟨rfl, Below.refl _ _⟩
  go_wp2
  go_loop [11, 45] (fun z i => ∃ (t : Int) (q : Nat), q ≤ nD ∧ 0 ≤ t ∧ t ≤ 1048576 ∧ z = .int .i64 t ∧ i = .int .i64 q) (fun _ i => nD - (intOf i).toNat)
  case atStart => exact ⟨_, 0, Nat.zero_le _, by omega, by omega, rfl, rfl⟩
  case round =>
    obtain ⟨t, q, hq, ht0, ht, rfl, rfl⟩ := hrel
    by_cases hlt : q < nD
    · have hcx := hD.cell q hlt
      have hsx := hD.size q hlt
      unfold maxLen at hsx
      obtain rfl := hD.addr (by omega)
      go_wp2
      · go_ret
        exact ⟨rfl, Below.refl _ _⟩
      · go_ret
        exact ⟨rfl, Below.refl _ _⟩
      · go_round
        case rel => exact ⟨_, q + 1, by omega, by omega, by omega, rfl, by go_num⟩
        case measure => simp [intOf]; omega
    · go_wp2
      go_loop [11, 62] (fun z i => ∃ (t : Int) (q : Nat), q ≤ nC ∧ 0 ≤ t ∧ t ≤ 1048576 ∧ z = .int .i64 t ∧ i = .int .i64 q) (fun _ i => nC - (intOf i).toNat)
      case atStart => exact ⟨_, 0, Nat.zero_le _, by omega, by omega, rfl, rfl⟩
      case round =>
        obtain ⟨t2, q2, hq2, ht02, ht2, rfl, rfl⟩ := hrel
        by_cases hlt2 : q2 < nC
        · have hcx := hC.cell q2 hlt2
          have hsx := hC.size q2 hlt2
          unfold maxLen at hsx
          obtain rfl := hC.addr (by omega)
          go_wp2
          · go_ret
            exact ⟨rfl, Below.refl _ _⟩
          · go_ret
            exact ⟨rfl, Below.refl _ _⟩
          · go_round
            case rel => exact ⟨_, q2 + 1, by omega, by omega, by omega, rfl, by go_num⟩
            case measure => simp [intOf]; omega
        · go_wp2_with fail
          refine (byteSorted13b aD bD offD nD capD D _ (by omega) hD).mono ?_
          rintro e w1 ⟨⟨r1, rfl, hs1⟩, hb1⟩
          cases r1
          · go_wp2
            go_ret
            exact ⟨rfl, hb1⟩
          have sD := hs1 rfl
          have hC' := hC.belowSelf hb1
          have hD' := hD.belowSelf hb1
          go_wp2_with fail
          refine (byteSorted13b aC bC offC nC capC C _ (by omega) hC').mono ?_
          rintro e w2 ⟨⟨r2, rfl, hs2⟩, hb2⟩
          have hbw := hb1.trans (hb2.mono hb1.size)
          cases r2
          · go_wp2
            go_ret
            exact ⟨rfl, hbw⟩
          have sC := hs2 rfl
          have HC := hC'.belowSelf hb2
          have HD := hD'.belowSelf hb2
          clear hs1 hs2 hbytes hC' hD' hC hD hb1 hb2
          by_cases k0 : k < 0
          · go_wp2
            go_ret
            exact ⟨rfl, hbw⟩
          obtain ⟨kn, rfl⟩ := Int.eq_ofNat_of_zero_le (show 0 ≤ k by omega)
          by_cases k1 : nD < kn
          · go_wp2
            go_ret
            exact ⟨rfl, hbw⟩
          by_cases m0 : m < 0
          · go_wp2
            go_ret
            exact ⟨rfl, hbw⟩
          obtain ⟨mn, rfl⟩ := Int.eq_ofNat_of_zero_le (show 0 ≤ m by omega)
          by_cases m1 : nC < mn
          · go_wp2
            go_ret
            exact ⟨rfl, hbw⟩
          obtain ⟨aD1, rD1, sD1⟩ := cut_head aD bD offD nD capD kn D (by omega) hD1
          obtain ⟨aC1, rC1, sC1⟩ := cut_head aC bC offC nC capC mn C (by omega) hC1
          obtain ⟨aD2, rD2, sD2⟩ := cut_tail aD bD offD nD capD kn D (by omega) hD1
          obtain ⟨aC2, rC2, sC2⟩ := cut_tail aC bC offC nC capC mn C (by omega) hC1
          have HD1 := sD1 w2 HD
          have HC1 := sC1 w2 HC
          have HD2 := sD2 w2 HD
          have HC2 := sC2 w2 HC
          clear sD1 sC1 sD2 sC2
          go_wp2_with fail
          go_region
          go_wp2_with fail
          go_region
          go_wp2_with fail
          obtain ⟨hgL, hgR, hb3⟩ := three_blocks w2 (.cells #[.slice aD nD capD, .slice aC nC capC, .slice none 0 0] 30) (.cells #[.slice aD1 kn capD, .slice aC1 mn capC, .slice none 0 0] 30) (.cells #[.slice aD2 (nD - kn) (capD - kn), .slice aC2 (nC - mn) (capC - mn), .slice none 0 0] 30)
          generalize (((w2.alloc (.cells #[.slice aD nD capD, .slice aC nC capC, .slice none 0 0] 30)).alloc (.cells #[.slice aD1 kn capD, .slice aC1 mn capC, .slice none 0 0] 30)).alloc (.cells #[.slice aD2 (nD - kn) (capD - kn), .slice aC2 (nC - mn) (capC - mn), .slice none 0 0] 30)).drew.drew = W3 at hgL hgR hb3 ⊢
          have hgreat := status_greater (inB C mn id) (inB (fun j => C (mn + j)) (nC - mn) id) (inB D kn id) (inB (fun j => D (kn + j)) (nD - kn) id)
          rw [← inB_split C nC mn id (by omega), ← inB_split D nD kn id (by omega)] at hgreat
          refine (status14 aD aC bD offD nD capD bC offC nC capC D C (.slice none 0 0) id _ (by omega) (by omega) (HD.belowSelf hb3) (HC.belowSelf hb3) sD sC).mono ?_
          rintro e w5 ⟨rfl, hb5⟩
          have hb35 := hb3.trans (hb5.mono hb3.size)
          have hbw5 := hbw.trans (hb35.mono hbw.size)
          have cL := fun W (h : Below w5.heap.size w5 W) => cells_three hgL (hb5.trans (h.mono hb5.size))
          have cR := fun W (h : Below w5.heap.size w5 W) => cells_three hgR (hb5.trans (h.mono hb5.size))
          have tL : ∀ W, Below w5.heap.size w5 W → Calls Try.prog 14 #[.agg #[.slice aD1 kn capD, .slice aC1 mn capC, .slice none 0 0], .string id] W fun e w' => e = .returned (.int .u8 (statusOf (inB C mn id) (inB D kn id))) ∧ Below w5.heap.size w5 w' := fun W h =>
            (status14 aD1 aC1 bD offD kn capD bC offC mn capC D C (.slice none 0 0) id W (by omega) (by omega) ((HD1.belowSelf hb35).belowSelf h) ((HC1.belowSelf hb35).belowSelf h) (sD.head (by omega)) (sC.head (by omega))).mono fun _ _ ⟨h1, h2⟩ => ⟨h1, h.trans (h2.mono h.size)⟩
          have tR : ∀ W, Below w5.heap.size w5 W → Calls Try.prog 14 #[.agg #[.slice aD2 (nD - kn) (capD - kn), .slice aC2 (nC - mn) (capC - mn), .slice none 0 0], .string id] W fun e w' => e = .returned (.int .u8 (statusOf (inB (fun j => C (mn + j)) (nC - mn) id) (inB (fun j => D (kn + j)) (nD - kn) id))) ∧ Below w5.heap.size w5 w' := fun W h =>
            (status14 aD2 aC2 bD (offD + kn) (nD - kn) (capD - kn) bC (offC + mn) (nC - mn) (capC - mn) _ _ (.slice none 0 0) id W (by omega) (by omega) ((HD2.belowSelf hb35).belowSelf h) ((HC2.belowSelf hb35).belowSelf h) (sD.tail (by omega)) (sC.tail (by omega))).mono fun _ _ ⟨h1, h2⟩ => ⟨h1, h.trans (h2.mono h.size)⟩
          have HD5 := HD.belowSelf hb35
          have HC5 := HC.belowSelf hb35
          generalize statusOf (inB C mn id) (inB D kn id) = x at tL hgreat
          generalize statusOf (inB (fun j => C (mn + j)) (nC - mn) id) (inB (fun j => D (kn + j)) (nD - kn) id) = y at tR hgreat
          clear HD HC HD1 HC1 HD2 HC2 hb3 hb5 hb35 hgL hgR hbw rD1 rD2 rC1 rC2
          have TL : Hid (∀ W, Below w5.heap.size w5 W → Calls Try.prog 14 #[.agg #[.slice aD1 kn capD, .slice aC1 mn capC, .slice none 0 0], .string id] W fun e w' => e = .returned (.int .u8 x) ∧ Below w5.heap.size w5 w') := tL
          have TR : Hid (∀ W, Below w5.heap.size w5 W → Calls Try.prog 14 #[.agg #[.slice aD2 (nD - kn) (capD - kn), .slice aC2 (nC - mn) (capC - mn), .slice none 0 0], .string id] W fun e w' => e = .returned (.int .u8 y) ∧ Below w5.heap.size w5 w') := tR
          obtain ⟨l0, l1, l2⟩ := cL w5 (Below.refl _ _)
          obtain ⟨s0, s1, s2⟩ := cR w5 (Below.refl _ _)
          have CL : Hid (∀ W, Below w5.heap.size w5 W → W.cell? ⟨w2.heap.size + 1, 0, none⟩ = some (.slice aD1 kn capD) ∧ W.cell? ⟨w2.heap.size + 1, 1, none⟩ = some (.slice aC1 mn capC) ∧ W.cell? ⟨w2.heap.size + 1, 2, none⟩ = some (.slice none 0 0)) := cL
          have CR : Hid (∀ W, Below w5.heap.size w5 W → W.cell? ⟨w2.heap.size + 1 + 1, 0, none⟩ = some (.slice aD2 (nD - kn) (capD - kn)) ∧ W.cell? ⟨w2.heap.size + 1 + 1, 1, none⟩ = some (.slice aC2 (nC - mn) (capC - mn)) ∧ W.cell? ⟨w2.heap.size + 1 + 1, 2, none⟩ = some (.slice none 0 0)) := cR
          clear tL tR cL cR
          have CLi : ∀ i : Later w5, i.world.cell? ⟨w2.heap.size + 1, 0, none⟩ = some (.slice aD1 kn capD) := fun i => (CL.out _ i.bel).1
          have CLj : ∀ i : Later w5, i.world.cell? ⟨w2.heap.size + 1, 1, none⟩ = some (.slice aC1 mn capC) := fun i => (CL.out _ i.bel).2.1
          have CLk : ∀ i : Later w5, i.world.cell? ⟨w2.heap.size + 1, 2, none⟩ = some (.slice none 0 0) := fun i => (CL.out _ i.bel).2.2
          have CRi : ∀ i : Later w5, i.world.cell? ⟨w2.heap.size + 1 + 1, 0, none⟩ = some (.slice aD2 (nD - kn) (capD - kn)) := fun i => (CR.out _ i.bel).1
          have CRj : ∀ i : Later w5, i.world.cell? ⟨w2.heap.size + 1 + 1, 1, none⟩ = some (.slice aC2 (nC - mn) (capC - mn)) := fun i => (CR.out _ i.bel).2.1
          have CRk : ∀ i : Later w5, i.world.cell? ⟨w2.heap.size + 1 + 1, 2, none⟩ = some (.slice none 0 0) := fun i => (CR.out _ i.bel).2.2
          have hne : Nonempty (Later w5) := ⟨⟨w5, Below.refl _ _⟩⟩
          cases hc : inB C nC id
          · cases hd : inB D nD id
            · rw [hc, hd] at hgreat
              have HG : Hid ((0 : Int) = if y < x then x else y) := hgreat
              have hst : statusOf false false = 0 := rfl
              rw [hst]
              clear hgreat hst
              go_wp2_with fail
              refine (containsID15 aC bC offC nC capC C id _ (by unfold maxLen; omega) HC5).mono ?_
              rintro e w6 ⟨rfl, rfl⟩
              rw [hc]
              go_wp2_with fail
              refine (containsID15 aD bD offD nD capD D id _ (by unfold maxLen; omega) HD5).mono ?_
              rintro e w6 ⟨rfl, rfl⟩
              rw [hd]
              go_wp2_with fail
              refine wp_region_later (by kernel_rfl) (by kernel_rfl) ?_
              repeat (go_big_quiet_step (first | (go_at_call_of 14 (Value.slice aD1 kn capD); exact Calls.later (TL.out _ (Later.bel _))) | (go_at_call_of 14 (Value.slice aD2 (nD - kn) (capD - kn)); exact Calls.later (TR.out _ (Later.bel _))) | (go_at_call 16; exact Calls.later ((greater16 _ _ _).mono fun _ _ ⟨h1, h2⟩ => ⟨h1, h2 ▸ Later.bel _⟩))))
              refine wpQuiet_nil ?_
              intro _ hw'
              obtain ⟨i6, hw''⟩ := hw'
              subst hw''
              rw [← HG.out]
              go_wp2
              go_ret
              exact ⟨rfl, hbw5.trans (i6.bel.mono hbw5.size)⟩
            · rw [hc, hd] at hgreat
              have HG : Hid ((1 : Int) = if y < x then x else y) := hgreat
              have hst : statusOf false true = 1 := rfl
              rw [hst]
              clear hgreat hst
              go_wp2_with fail
              refine (containsID15 aC bC offC nC capC C id _ (by unfold maxLen; omega) HC5).mono ?_
              rintro e w6 ⟨rfl, rfl⟩
              rw [hc]
              go_wp2_with fail
              refine (containsID15 aD bD offD nD capD D id _ (by unfold maxLen; omega) HD5).mono ?_
              rintro e w6 ⟨rfl, rfl⟩
              rw [hd]
              go_wp2_with fail
              refine wp_region_later (by kernel_rfl) (by kernel_rfl) ?_
              repeat (go_big_quiet_step (first | (go_at_call_of 14 (Value.slice aD1 kn capD); exact Calls.later (TL.out _ (Later.bel _))) | (go_at_call_of 14 (Value.slice aD2 (nD - kn) (capD - kn)); exact Calls.later (TR.out _ (Later.bel _))) | (go_at_call 16; exact Calls.later ((greater16 _ _ _).mono fun _ _ ⟨h1, h2⟩ => ⟨h1, h2 ▸ Later.bel _⟩))))
              refine wpQuiet_nil ?_
              intro _ hw'
              obtain ⟨i6, hw''⟩ := hw'
              subst hw''
              rw [← HG.out]
              go_wp2
              go_ret
              exact ⟨rfl, hbw5.trans (i6.bel.mono hbw5.size)⟩
          · have hst : statusOf true (inB D nD id) = 2 := rfl
            rw [hc, hst] at hgreat
            have HG : Hid ((2 : Int) = if y < x then x else y) := hgreat
            rw [hst]
            clear hgreat hst
            go_wp2_with fail
            refine (containsID15 aC bC offC nC capC C id _ (by unfold maxLen; omega) HC5).mono ?_
            rintro e w6 ⟨rfl, rfl⟩
            rw [hc]
            go_wp2_with fail
            refine wp_region_later (by kernel_rfl) (by kernel_rfl) ?_
            repeat (go_big_quiet_step (first | (go_at_call_of 14 (Value.slice aD1 kn capD); exact Calls.later (TL.out _ (Later.bel _))) | (go_at_call_of 14 (Value.slice aD2 (nD - kn) (capD - kn)); exact Calls.later (TR.out _ (Later.bel _))) | (go_at_call 16; exact Calls.later ((greater16 _ _ _).mono fun _ _ ⟨h1, h2⟩ => ⟨h1, h2 ▸ Later.bel _⟩))))
            refine wpQuiet_nil ?_
            intro _ hw'
            obtain ⟨i6, hw''⟩ := hw'
            subst hw''
            rw [← HG.out]
            go_wp2
            go_ret
            exact ⟨rfl, hbw5.trans (i6.bel.mono hbw5.size)⟩
end Go.Proofs.Qxb6617809a
