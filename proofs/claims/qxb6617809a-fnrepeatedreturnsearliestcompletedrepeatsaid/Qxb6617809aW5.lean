import Derived.Test.Qxb6617809aW4
import Derived.Test.Qxb6617809aBest
namespace Go.Proofs.Qxb6617809a
open Go.RowKit

/-- 'pos' behind k rounds -/
def PosAt (k : Nat) : Nat → Value := fun j => if j < k then .int .i64 (j : Int) else .int .i64 0
theorem PosAt.step (k j : Nat) : PosAt (k + 1) j = upd (PosAt k) k (.int .i64 (k : Int)) j := by
  unfold PosAt upd
  by_cases h : j = k
  · subst h; simp
  · by_cases h2 : j < k
    · simp [h, h2, show j < k + 1 by omega]
    · simp [h, h2, show ¬ j < k + 1 by omega]
theorem PosAt.all {n j : Nat} (h : j < n) : ints (fun j => j) j = PosAt n j := by simp [ints, PosAt, h]

/-- the scan's memory -/
structure Scan (w0 wr : World) (a : Option Addr) (b off n : Nat) (S : Nat → ByteArray) (gp : Nat) (P : Nat → Nat) : Prop where
  p : Row wr gp 3 n (ints P)
  s : Strs wr a b off n S
  bel : Below gp w0 wr
theorem Scan.pc {w0 wr : World} {a : Option Addr} {b off n : Nat} {S : Nat → ByteArray} {gp : Nat} {P : Nat → Nat} (h : Scan w0 wr a b off n S gp P) {j : Nat} (hj : j < n) : wr.cell? ⟨gp, j, none⟩ = some (.int .i64 (P j)) := h.p.cell hj
theorem Scan.drewN {w0 wr : World} {a : Option Addr} {b off n : Nat} {S : Nat → ByteArray} {gp : Nat} {P : Nat → Nat} (h : Scan w0 wr a b off n S gp P) (q : Nat) : Scan w0 (wr.drewN q) a b off n S gp P :=
  ⟨⟨h.p.blk⟩, h.s.drewN q, ⟨h.bel.os, h.bel.tape, h.bel.output, h.bel.size, h.bel.block⟩⟩

set_option maxHeartbeats 2000000 in
set_option maxRecDepth 100000 in
theorem earliest8 (a : Option Addr) (b off n cap : Nat) (S : Nat → ByteArray) (w : World) (hn : n ≤ 65536) (hs : Strs w a b off n S) :
    Calls Try.prog 8 #[.slice a n cap] w fun e w' => RepEnd S n e ∧ Below w.heap.size w w' := by
  obtain ⟨i0, hi, hz0, hz1, hz2⟩ := info_parts info3
  go_enter Try.func8, Try.ntmps8
  go_wp2_with (first
    | (at_make; refine wpList_make_row _ rfl _ _ 37 rfl 3 i0 _ Try.underlying37 hi hz0 hz1 rfl _ _ _ _ n rfl rfl rfl rfl (by rw [hz2]; omega) (by unfold maxLen; omega) ?_; intro w1 hrow1 hb1)
    | go_in)
  go_loopw [6] (fun z wr => ∃ (k : Nat), k ≤ n ∧ Row wr w.heap.size 3 n (PosAt k) ∧ Below w.heap.size w wr ∧ z = .int .i64 k) (fun z _ => n - (intOf z).toNat)
  case atStart => exact ⟨0, Nat.zero_le _, hrow1.congr (fun j _ => by simp [PosAt]), hb1, rfl⟩
  case round =>
    clear hrow1 hb1
    obtain ⟨k, hk, hrow, hbr, rfl⟩ := hrel
    by_cases hkn : k < n
    · have hcy := hrow.cell (j := k) (by omega)
      have hcf := hrow.free k
      go_wp2
      go_roundw
      case rel => exact ⟨k + 1, by omega, (hrow.set (by omega) _).congr (fun j _ => PosAt.step k j), hbr.setCell (Nat.le_refl _) _, by go_num⟩
      case measure => simp [intOf]; omega
    · obtain rfl : k = n := by omega
      have hP := hrow.congr (fun j hj => PosAt.all hj)
      have hs2 := hs.belowSelf hbr
      go_wp2_with fail
      refine (sort19 a b off k cap S w.heap.size (fun j => j) _ hn hs2 hs.lt hP (Sorting.once_id k)).mono ?_
      rintro e w2 ⟨rfl, P, hP2, hO, hsrt, hb2⟩
      have hsc : Scan w w2 a b off k S w.heap.size P := ⟨hP2, hs2.below hb2 hs.lt, hbr.trans hb2⟩
      have HO : Hid (Sorting.Once P k) := hO
      have HS : Hid (∀ p q, p < q → q < k → Sorting.Le (lessB S) (P p) (P q)) := hsrt
      clear hP2 hs2 hb2 hbr hP hrow hs hO hsrt
      go_wp2
      go_loopw [7, 8] (fun zb zp wr => ∃ (p : Nat) (z : Int), (p + 1 ≤ k ∨ p = 0) ∧ Best S P (p + 1) z ∧ Scan w wr a b off k S w.heap.size P ∧ zb = .int .i64 z ∧ zp = .int .i64 ((p : Int) + 1)) (fun _ zp _ => k - (intOf zp).toNat)
      case atStart => exact ⟨0, -1, by omega, Best.one S P, hsc, rfl, by go_num⟩
      case round =>
        clear hsc
        obtain ⟨p, z, hpk, hbest, hsc, rfl, rfl⟩ := hrel
        have hzr := hbest.range (n := k) (by omega) (fun q hq => HO.out.lt hq)
        by_cases hp : p + 1 < k
        · have c1 := hsc.pc hp
          have c2 := hsc.pc (show p < k by omega)
          have q1 := HO.out.lt hp
          have q2 := HO.out.lt (show p < k by omega)
          have d1 := hsc.s.cell _ q1
          have d2 := hsc.s.cell _ q2
          obtain rfl := hsc.s.addr (by omega)
          by_cases heq : S (P (p + 1)) = S (P p)
          · have hb1 : ((S (P (p + 1))).toList == (S (P p)).toList) = true := by rw [heq]; simp
            have HE : Hid (S (P (p + 1)) = S (P p)) := heq
            clear heq
            cases p with
            | zero =>
              have hcand : Plain.Cand S P (0 + 1) := ⟨by omega, by simpa using HE.out, fun h => by have := h.1; omega⟩
              by_cases hz : z < 0
              · go_wp2
                go_quiet (fail)
                go_wp2
                go_quiet (fail)
                go_wp2
                go_roundw
                case rel => exact ⟨0 + 1, _, by omega, hbest.take hcand (.inl hz), hsc.drewN _, rfl, by go_num⟩
                case measure => simp [intOf]; omega
              · by_cases hz2 : (P 1 : Int) < z
                · go_wp2
                  go_quiet (fail)
                  go_wp2
                  go_quiet (fail)
                  go_wp2
                  go_roundw
                  case rel => exact ⟨0 + 1, _, by omega, hbest.take hcand (.inr hz2), hsc.drewN _, rfl, by go_num⟩
                  case measure => simp [intOf]; omega
                · go_wp2
                  go_quiet (fail)
                  go_wp2
                  go_quiet (fail)
                  go_wp2
                  go_roundw
                  case rel => exact ⟨0 + 1, _, by omega, hbest.keep (by omega) (by omega), hsc.drewN _, rfl, by go_num⟩
                  case measure => simp [intOf]; omega
            | succ r =>
              have c3 := hsc.pc (show r < k by omega)
              have q3 := HO.out.lt (show r < k by omega)
              have d3 := hsc.s.cell _ q3
              have hg : decide ((2 : Int) ≤ (r : Int) + 1 + 1) = true := by simp; omega
              by_cases heq2 : S (P r) = S (P (r + 1 + 1))
              · have hb2 : ((S (P r)).toList == (S (P (r + 1 + 1))).toList) = true := by rw [heq2]; simp
                have HE2 : Hid (S (P r) = S (P (r + 1 + 1))) := heq2
                clear heq2
                go_wp2
                go_quiet (fail)
                go_wp2
                go_quiet (fail)
                go_wp2
                go_roundw
                case rel => exact ⟨r + 1 + 1, z, by omega, hbest.skip (fun h => h.2.2 ⟨by omega, HE2.out⟩), hsc.drewN _, rfl, by go_num⟩
                case measure => simp [intOf]; omega
              · have hb2 : ((S (P r)).toList == (S (P (r + 1 + 1))).toList) = false := (Lib.bytes_beq_false_iff _ _).2 heq2
                have hcand : Plain.Cand S P (r + 1 + 1) := ⟨by omega, by simpa using HE.out, fun h => heq2 h.2⟩
                clear heq2
                by_cases hz : z < 0
                · go_wp2
                  go_quiet (fail)
                  go_wp2
                  go_quiet (fail)
                  go_wp2
                  go_roundw
                  case rel => exact ⟨r + 1 + 1, _, by omega, hbest.take hcand (.inl hz), hsc.drewN _, rfl, by go_num⟩
                  case measure => simp [intOf]; omega
                · by_cases hz2 : (P (r + 1 + 1) : Int) < z
                  · go_wp2
                    go_quiet (fail)
                    go_wp2
                    go_quiet (fail)
                    go_wp2
                    go_roundw
                    case rel => exact ⟨r + 1 + 1, _, by omega, hbest.take hcand (.inr hz2), hsc.drewN _, rfl, by go_num⟩
                    case measure => simp [intOf]; omega
                  · go_wp2
                    go_quiet (fail)
                    go_wp2
                    go_quiet (fail)
                    go_wp2
                    go_roundw
                    case rel => exact ⟨r + 1 + 1, _, by omega, hbest.keep (by omega) (by omega), hsc.drewN _, rfl, by go_num⟩
                    case measure => simp [intOf]; omega
          · have hb1 : ((S (P (p + 1))).toList == (S (P p)).toList) = false := (Lib.bytes_beq_false_iff _ _).2 heq
            have HE : Hid (¬ S (P (p + 1)) = S (P p)) := heq
            clear heq
            go_wp2
            go_quiet (fail)
            go_wp2
            go_roundw
            case rel => exact ⟨p + 1, z, by omega, hbest.skip (fun h => HE.out (by simpa using h.2.1)), hsc.drewN _, rfl, by go_num⟩
            case measure => simp [intOf]; omega
        · have hend := hbest.rep HO.out HS.out (p := p + 1) (n := k) (by omega)
          rcases hend with ⟨rfl, hr⟩ | ⟨m, rfl, hm, hr⟩
          · go_wp2
            go_ret2
            exact ⟨⟨_, _, rfl, hr⟩, hsc.bel⟩
          · have d1 := hsc.s.cell m hm
            obtain rfl := hsc.s.addr (by omega)
            go_wp2
            go_ret2
            exact ⟨⟨_, _, rfl, hr⟩, hsc.bel⟩
end Go.Proofs.Qxb6617809a
