import Derived.Test.Qxb6617809aW2
import Derived.Test.Qxb6617809aOrd
import Derived.Deep.QuietTactic
import Derived.BigQuiet
namespace Go.Proofs.Qxb6617809a
open Go.RowKit

set_option maxHeartbeats 400000 in
theorem less22 (a : Option Addr) (b off n cap : Nat) (S : Nat → ByteArray) (x y : Nat) (w : World) (hn : n ≤ maxLen) (hx : x < n) (hy : y < n) (hs : Strs w a b off n S) :
    Calls Try.prog 22 #[.slice a n cap, .int .i64 x, .int .i64 y] w fun e w' => e = .returned (.bool (lessB S x y)) ∧ ∃ q, w' = w.drewN q := by
  unfold maxLen at hn
  have hcx := hs.cell x hx
  have hcy := hs.cell y hy
  obtain rfl := hs.addr (by omega)
  by_cases e : S x = S y
  · have hb : ((S x).toList == (S y).toList) = true := by rw [e]; simp
    have hfin : lessB S x y = decide (x < y) := by unfold lessB; rw [if_pos e]
    have HF : Hid (lessB S x y = decide (x < y)) := hfin
    clear e hfin
    go_enter Try.func22, Try.ntmps22
    go_wp2
    go_quiet (fail)
    go_wp2
    go_ret
    exact ⟨by rw [HF.out]; rfl, _, rfl⟩
  · have hb : ((S x).toList == (S y).toList) = false := (Lib.bytes_beq_false_iff _ _).2 e
    have hfin : lessB S x y = Op.bytesLess (S x).toList (S y).toList := by unfold lessB; rw [if_neg e]
    have HF : Hid (lessB S x y = Op.bytesLess (S x).toList (S y).toList) := hfin
    clear e hfin
    go_enter Try.func22, Try.ntmps22
    go_wp2
    go_quiet (fail)
    go_wp2
    go_quiet (fail)
    go_wp2
    go_ret
    exact ⟨by rw [HF.out]; rfl, _, by rw [World.drewN_drewN]⟩

/-- numbers in a row -/
def ints (P : Nat → Nat) : Nat → Value := fun j => .int .i64 (P j : Int)

/-- the sort's memory: the positions in block gp, the buffer in block gb, the strings, all older blocks -/
structure Mem (w0 wr : World) (a : Option Addr) (b off n : Nat) (S : Nat → ByteArray) (gp gb : Nat) (P B : Nat → Nat) : Prop where
  p : Row wr gp 3 n (ints P)
  bf : Row wr gb 3 n (ints B)
  s : Strs wr a b off n S
  bel : Below gp w0 wr
  lt : gp < gb
  sb : 0 < n → b < gp

section
variable {w0 wr : World} {a : Option Addr} {b off n : Nat} {S : Nat → ByteArray} {gp gb : Nat} {P B : Nat → Nat}

theorem Mem.pc (h : Mem w0 wr a b off n S gp gb P B) {j : Nat} (hj : j < n) : wr.cell? ⟨gp, j, none⟩ = some (.int .i64 (P j)) := h.p.cell hj
theorem Mem.bc (h : Mem w0 wr a b off n S gp gb P B) {j : Nat} (hj : j < n) : wr.cell? ⟨gb, j, none⟩ = some (.int .i64 (B j)) := h.bf.cell hj
theorem Mem.drewN (h : Mem w0 wr a b off n S gp gb P B) (q : Nat) : Mem w0 (wr.drewN q) a b off n S gp gb P B :=
  ⟨⟨h.p.blk⟩, ⟨h.bf.blk⟩, ⟨h.s.addr, h.s.cell, h.s.size, h.s.lt⟩, ⟨h.bel.os, h.bel.tape, h.bel.output, h.bel.size, h.bel.block⟩, h.lt, h.sb⟩

theorem Strs.drewN {w : World} (h : Strs w a b off n S) (q : Nat) : Strs (w.drewN q) a b off n S := ⟨h.addr, h.cell, h.size, h.lt⟩

theorem ints_put (B : Nat → Nat) (k u j : Nat) : ints (Sorting.put B k u) j = upd (ints B) k (.int .i64 u) j := by
  unfold ints Sorting.put upd
  by_cases h : j = k
  · simp [h]
  · simp [h]

theorem Strs.other {w : World} (h : Strs w a b off n S) {ad : Addr} (ha : 0 < n → b ≠ ad.block) (u : Value) : Strs (w.setCell ad u) a b off n S :=
  ⟨h.addr, fun j hj => (World.cell?_of_block (w := w) (a := ⟨b, off + j, none⟩) (Below.heap_setCell w ad u b (ha (by omega)))).trans (h.cell j hj), h.size, fun h0 => by have := h.lt h0; simpa [World.setCell] using this⟩

theorem Mem.setB (h : Mem w0 wr a b off n S gp gb P B) {k : Nat} (hk : k < n) (u : Nat) : Mem w0 (wr.setCell ⟨gb, k, none⟩ (.int .i64 u)) a b off n S gp gb P (Sorting.put B k u) := by
  have h1 := h.lt
  exact ⟨h.p.other (show gp ≠ gb by omega) _, (h.bf.set hk _).congr (fun j _ => ints_put B k u j), h.s.other (fun h0 => by have := h.sb h0; show b ≠ gb; omega) _, h.bel.setCell (show gp ≤ gb by omega) _, h.lt, h.sb⟩

theorem Mem.setP (h : Mem w0 wr a b off n S gp gb P B) {k : Nat} (hk : k < n) (u : Nat) : Mem w0 (wr.setCell ⟨gp, k, none⟩ (.int .i64 u)) a b off n S gp gb (Sorting.put P k u) B := by
  have h1 := h.lt
  exact ⟨(h.p.set hk _).congr (fun j _ => ints_put P k u j), h.bf.other (show gb ≠ gp by omega) _, h.s.other (fun h0 => by have := h.sb h0; show b ≠ gp; omega) _, h.bel.setCell (Nat.le_refl _) _, h.lt, h.sb⟩
end

theorem info3 : (Try.prog.info? 3).map (fun i => (i.zero, i.size, i.bytes)) = some (some (.int .i64 0), 1, 8) := by kernel_rfl

set_option maxHeartbeats 4000000 in
set_option maxRecDepth 100000 in
theorem sort19 (a : Option Addr) (b off n cap : Nat) (S : Nat → ByteArray) (gp : Nat) (P0 : Nat → Nat) (w : World) (hn : n ≤ 65536) (hs : Strs w a b off n S) (hsb : 0 < n → b < gp)
    (hP : Row w gp 3 n (ints P0)) (hO : Sorting.Once P0 n) :
    Calls Try.prog 19 #[.slice a n cap, .slice (some ⟨gp, 0, none⟩) n n] w fun e w' => e = .returned (.tuple #[]) ∧ ∃ P, Row w' gp 3 n (ints P) ∧ Sorting.Once P n ∧ (∀ p q, p < q → q < n → Sorting.Le (lessB S) (P p) (P q)) ∧ Below gp w w' := by
  obtain ⟨i0, hi, hz0, hz1, hz2⟩ := info_parts info3
  have hO' := lessB_order S
  go_enter Try.func19, Try.ntmps19
  go_wp2_with (first
    | (at_make; refine wpList_make_row _ rfl _ _ 37 rfl 3 i0 _ Try.underlying37 hi hz0 hz1 rfl _ _ _ _ n rfl rfl rfl rfl (by rw [hz2]; omega) (by unfold maxLen; omega) ?_; intro w1 hrow1 hb1)
    | go_in)
  have hM1 : Mem w w1 a b off n S gp w.heap.size P0 (fun _ => 0) := ⟨hP.below hb1 hP.lt, hrow1.congr (fun j _ => rfl), hs.belowSelf hb1, hb1.mono (Nat.le_of_lt hP.lt), hP.lt, hsb⟩
  have HO : Hid (Sorting.Once P0 n) := hO
  clear hO hP hs hrow1 hb1
  go_loopw [6] (fun z wr => ∃ (d : Nat) (P B : Nat → Nat), 1 ≤ d ∧ d ≤ 131072 ∧ Sorting.Runs (lessB S) P d n ∧ Hid (Sorting.Once P n) ∧ Mem w wr a b off n S gp w.heap.size P B ∧ z = .int .i64 d) (fun z _ => n - (intOf z).toNat)
  case atStart => exact ⟨1, P0, _, by omega, by omega, Sorting.runs_one _ _ _, HO, hM1, rfl⟩
  case round =>
    clear hM1 HO
    obtain ⟨d, P, B, hd1, hd2, hruns, hO1, hM, rfl⟩ := hrel
    by_cases hdn : d < n
    · go_wp2
      go_loopw [7] (fun z wq => ∃ (m lo : Nat) (B' : Nat → Nat), Sorting.Pass (lessB S) P d n m lo B' ∧ Mem w wq a b off n S gp w.heap.size P B' ∧ z = .int .i64 lo) (fun z _ => n - (intOf z).toNat)
      case atStart => exact ⟨0, 0, B, Sorting.Pass.zero _ _ _ _ _, hM, rfl⟩
      case round =>
        clear hM
        obtain ⟨m, lo, B1, hpass, hM2, rfl⟩ := hrel
        have hle := hpass.le
        by_cases hlo : lo < n
        · by_cases hA : n < lo + d
          · have hdA : decide ((n : Int) < (lo : Int) + (d : Int)) = true := by simp; omega
            have hdB : decide ((n : Int) < (n : Int) + (d : Int)) = true := by simp; omega
            have hbegin := hpass.begin hlo hruns (mid := n) (hi := n) (by omega) (by omega) (by omega) (by omega) (by omega) (by omega)
            go_wp2
            go_loopw [10, 11, 12] (fun zi zj zk wq => ∃ (i j k : Nat) (B' : Nat → Nat), Sorting.Merge (lessB S) P B1 lo n n i j k B' ∧ Mem w wq a b off n S gp w.heap.size P B' ∧ zi = .int .i64 i ∧ zj = .int .i64 j ∧ zk = .int .i64 k) (fun zi zj _ _ => n + n - ((intOf zi).toNat + (intOf zj).toNat))
            case atStart => exact ⟨lo, _, lo, B1, hbegin, hM2, by go_num, by go_num, by go_num⟩
            case round =>
              clear hM2 hbegin
              obtain ⟨i, j, k, B2, hmg, hM3, rfl, rfl, rfl⟩ := hrel
              have e1 := hmg.l1; have e2 := hmg.l2; have e3 := hmg.l3; have e4 := hmg.l4; have ek := hmg.lk
              by_cases hboth : i < n ∧ j < n
              · exact absurd hboth (by omega)
              · have hor : ¬ i < n ∨ (i < n ∧ ¬ j < n) := by omega
                clear hboth
                rcases hor with hx | ⟨hx, hy⟩
                all_goals
                  go_wp2
                  go_loopw [10, 12] (fun zi zk wq => ∃ (i k : Nat) (B' : Nat → Nat), (i < n → j = n) ∧ Sorting.Merge (lessB S) P B1 lo n n i j k B' ∧ Mem w wq a b off n S gp w.heap.size P B' ∧ zi = .int .i64 i ∧ zk = .int .i64 k) (fun zi _ _ => n - (intOf zi).toNat)
                  case atStart => exact ⟨i, k, B2, by omega, hmg, hM3, rfl, rfl⟩
                  case round =>
                    clear hM3 hmg e1 e2 e3 e4 ek hx
                    try clear hy
                    obtain ⟨i4, k4, B4, hje, hmg, hM3, rfl, rfl⟩ := hrel
                    have e1 := hmg.l1; have e2 := hmg.l2; have e3 := hmg.l3; have e4 := hmg.l4; have ek := hmg.lk
                    by_cases hi4 : i4 < n
                    · have hje' := hje hi4
                      have c1 := hM3.pc (show i4 < n by omega)
                      have c3 := hM3.bc (show k4 < n by omega)
                      have c4 := hM3.bf.free k4
                      have HJ : Hid (j = n) := hje'
                      clear hje' hje
                      go_wp2
                      go_roundw
                      case rel => exact ⟨i4 + 1, k4 + 1, _, fun _ => HJ.out, hmg.takeI hi4 (fun q hq1 hq2 => by have := HJ.out; omega), hM3.setB (by have := HJ.out; omega) _, by go_num, by go_num⟩
                      case measure => simp [intOf]; omega
                    · have hi5 : i4 = n := by omega
                      have HI5 : Hid (i4 = n) := hi5
                      clear hi5 hje
                      go_wp2
                      go_loopw [11, 12] (fun zj zk wq => ∃ (j k : Nat) (B' : Nat → Nat), Sorting.Merge (lessB S) P B1 lo n n i4 j k B' ∧ Mem w wq a b off n S gp w.heap.size P B' ∧ zj = .int .i64 j ∧ zk = .int .i64 k) (fun zj _ _ => n - (intOf zj).toNat)
                      case atStart => exact ⟨j, k4, B4, hmg, hM3, rfl, rfl⟩
                      case round =>
                        clear hM3 hmg e1 e2 e3 e4 ek
                        obtain ⟨j5, k5, B5, hmg, hM3, rfl, rfl⟩ := hrel
                        have e1 := hmg.l1; have e2 := hmg.l2; have e3 := hmg.l3; have e4 := hmg.l4; have ek := hmg.lk
                        by_cases hj5 : j5 < n
                        · exact absurd hj5 (by omega)
                        · have hj6 : j5 = n := by omega
                          have hk6 : k5 = n := by omega
                          have hend : Sorting.Merge (lessB S) P B1 lo n n n n n B5 := by have h := hmg; rw [HI5.out, hj6, hk6] at h; exact h
                          have hnext := hpass.next hlo hend (by omega) (by omega)
                          clear hj6 hk6 hend
                          go_wp2
                          go_roundw
                          case rel => exact ⟨m + 1, _, B5, hnext, hM3, by go_num⟩
                          case measure => simp [intOf]; omega

          · by_cases hB : n < lo + d + d
            · have hdA : decide ((n : Int) < (lo : Int) + (d : Int)) = false := by simp; omega
              have hdB : decide ((n : Int) < (lo : Int) + (d : Int) + (d : Int)) = true := by simp; omega
              have hbegin := hpass.begin hlo hruns (mid := lo + d) (hi := n) (by omega) (by omega) (by omega) (by omega) (by omega) (by omega)
              go_wp2
              go_loopw [10, 11, 12] (fun zi zj zk wq => ∃ (i j k : Nat) (B' : Nat → Nat), Sorting.Merge (lessB S) P B1 lo (lo + d) n i j k B' ∧ Mem w wq a b off n S gp w.heap.size P B' ∧ zi = .int .i64 i ∧ zj = .int .i64 j ∧ zk = .int .i64 k) (fun zi zj _ _ => (lo + d) + n - ((intOf zi).toNat + (intOf zj).toNat))
              case atStart => exact ⟨lo, _, lo, B1, hbegin, hM2, by go_num, by go_num, by go_num⟩
              case round =>
                clear hM2 hbegin
                obtain ⟨i, j, k, B2, hmg, hM3, rfl, rfl, rfl⟩ := hrel
                have e1 := hmg.l1; have e2 := hmg.l2; have e3 := hmg.l3; have e4 := hmg.l4; have ek := hmg.lk
                by_cases hboth : i < (lo + d) ∧ j < n
                · obtain ⟨hi1, hj1⟩ := hboth
                  have c1 := hM3.pc (show i < n by omega)
                  have c2 := hM3.pc (show j < n by omega)
                  have c3 := hM3.bc (show k < n by omega)
                  have c4 := hM3.bf.free k
                  have q1 := hO1.out.lt (show i < n by omega)
                  have q2 := hO1.out.lt (show j < n by omega)
                  cases ht : lessB S (P j) (P i)
                  · have HT : Hid (lessB S (P j) (P i) = false) := ht
                    go_wp2
                    go_quiet ((go_at_call 22; refine Calls.quiet_of (less22 _ b off n cap S (P j) (P i) _ (by unfold maxLen; omega) q2 q1 ?_); exact hM3.s.drewN _))
                    rw [ht]
                    go_wp2
                    go_roundw
                    case rel => exact ⟨i + 1, j, k + 1, _, hmg.no hO' hi1 HT.out, (hM3.drewN _).setB (by omega) _, by go_num, by go_num, by go_num⟩
                    case measure => simp [intOf]; omega
                  · have HT : Hid (lessB S (P j) (P i) = true) := ht
                    go_wp2
                    go_quiet ((go_at_call 22; refine Calls.quiet_of (less22 _ b off n cap S (P j) (P i) _ (by unfold maxLen; omega) q2 q1 ?_); exact hM3.s.drewN _))
                    rw [ht]
                    go_wp2
                    go_roundw
                    case rel => exact ⟨i, j + 1, k + 1, _, hmg.yes hO' hj1 HT.out, (hM3.drewN _).setB (by omega) _, by go_num, by go_num, by go_num⟩
                    case measure => simp [intOf]; omega
                · have hor : ¬ i < (lo + d) ∨ (i < (lo + d) ∧ ¬ j < n) := by omega
                  clear hboth
                  rcases hor with hx | ⟨hx, hy⟩
                  all_goals
                    go_wp2
                    go_loopw [10, 12] (fun zi zk wq => ∃ (i k : Nat) (B' : Nat → Nat), (i < (lo + d) → j = n) ∧ Sorting.Merge (lessB S) P B1 lo (lo + d) n i j k B' ∧ Mem w wq a b off n S gp w.heap.size P B' ∧ zi = .int .i64 i ∧ zk = .int .i64 k) (fun zi _ _ => (lo + d) - (intOf zi).toNat)
                    case atStart => exact ⟨i, k, B2, by omega, hmg, hM3, rfl, rfl⟩
                    case round =>
                      clear hM3 hmg e1 e2 e3 e4 ek hx
                      try clear hy
                      obtain ⟨i4, k4, B4, hje, hmg, hM3, rfl, rfl⟩ := hrel
                      have e1 := hmg.l1; have e2 := hmg.l2; have e3 := hmg.l3; have e4 := hmg.l4; have ek := hmg.lk
                      by_cases hi4 : i4 < (lo + d)
                      · have hje' := hje hi4
                        have c1 := hM3.pc (show i4 < n by omega)
                        have c3 := hM3.bc (show k4 < n by omega)
                        have c4 := hM3.bf.free k4
                        have HJ : Hid (j = n) := hje'
                        clear hje' hje
                        go_wp2
                        go_roundw
                        case rel => exact ⟨i4 + 1, k4 + 1, _, fun _ => HJ.out, hmg.takeI hi4 (fun q hq1 hq2 => by have := HJ.out; omega), hM3.setB (by have := HJ.out; omega) _, by go_num, by go_num⟩
                        case measure => simp [intOf]; omega
                      · have hi5 : i4 = (lo + d) := by omega
                        have HI5 : Hid (i4 = (lo + d)) := hi5
                        clear hi5 hje
                        go_wp2
                        go_loopw [11, 12] (fun zj zk wq => ∃ (j k : Nat) (B' : Nat → Nat), Sorting.Merge (lessB S) P B1 lo (lo + d) n i4 j k B' ∧ Mem w wq a b off n S gp w.heap.size P B' ∧ zj = .int .i64 j ∧ zk = .int .i64 k) (fun zj _ _ => n - (intOf zj).toNat)
                        case atStart => exact ⟨j, k4, B4, hmg, hM3, rfl, rfl⟩
                        case round =>
                          clear hM3 hmg e1 e2 e3 e4 ek
                          obtain ⟨j5, k5, B5, hmg, hM3, rfl, rfl⟩ := hrel
                          have e1 := hmg.l1; have e2 := hmg.l2; have e3 := hmg.l3; have e4 := hmg.l4; have ek := hmg.lk
                          by_cases hj5 : j5 < n
                          · have c1 := hM3.pc (show j5 < n by omega)
                            have c3 := hM3.bc (show k5 < n by omega)
                            have c4 := hM3.bf.free k5
                            go_wp2
                            go_roundw
                            case rel => exact ⟨j5 + 1, k5 + 1, _, hmg.takeJ hj5 (fun q hq1 hq2 => by have := HI5.out; omega), hM3.setB (by omega) _, by go_num, by go_num⟩
                            case measure => simp [intOf]; omega
                          · have hj6 : j5 = n := by omega
                            have hk6 : k5 = n := by omega
                            have hend : Sorting.Merge (lessB S) P B1 lo (lo + d) n (lo + d) n n B5 := by have h := hmg; rw [HI5.out, hj6, hk6] at h; exact h
                            have hnext := hpass.next hlo hend (by omega) (by omega)
                            clear hj6 hk6 hend
                            go_wp2
                            go_roundw
                            case rel => exact ⟨m + 1, _, B5, hnext, hM3, by go_num⟩
                            case measure => simp [intOf]; omega

            · have hdA : decide ((n : Int) < (lo : Int) + (d : Int)) = false := by simp; omega
              have hdB : decide ((n : Int) < (lo : Int) + (d : Int) + (d : Int)) = false := by simp; omega
              have hbegin := hpass.begin hlo hruns (mid := lo + d) (hi := lo + d + d) (by omega) (by omega) (by omega) (by omega) (by omega) (by omega)
              go_wp2
              go_loopw [10, 11, 12] (fun zi zj zk wq => ∃ (i j k : Nat) (B' : Nat → Nat), Sorting.Merge (lessB S) P B1 lo (lo + d) (lo + d + d) i j k B' ∧ Mem w wq a b off n S gp w.heap.size P B' ∧ zi = .int .i64 i ∧ zj = .int .i64 j ∧ zk = .int .i64 k) (fun zi zj _ _ => (lo + d) + (lo + d + d) - ((intOf zi).toNat + (intOf zj).toNat))
              case atStart => exact ⟨lo, _, lo, B1, hbegin, hM2, by go_num, by go_num, by go_num⟩
              case round =>
                clear hM2 hbegin
                obtain ⟨i, j, k, B2, hmg, hM3, rfl, rfl, rfl⟩ := hrel
                have e1 := hmg.l1; have e2 := hmg.l2; have e3 := hmg.l3; have e4 := hmg.l4; have ek := hmg.lk
                by_cases hboth : i < (lo + d) ∧ j < (lo + d + d)
                · obtain ⟨hi1, hj1⟩ := hboth
                  have c1 := hM3.pc (show i < n by omega)
                  have c2 := hM3.pc (show j < n by omega)
                  have c3 := hM3.bc (show k < n by omega)
                  have c4 := hM3.bf.free k
                  have q1 := hO1.out.lt (show i < n by omega)
                  have q2 := hO1.out.lt (show j < n by omega)
                  cases ht : lessB S (P j) (P i)
                  · have HT : Hid (lessB S (P j) (P i) = false) := ht
                    go_wp2
                    go_quiet ((go_at_call 22; refine Calls.quiet_of (less22 _ b off n cap S (P j) (P i) _ (by unfold maxLen; omega) q2 q1 ?_); exact hM3.s.drewN _))
                    rw [ht]
                    go_wp2
                    go_roundw
                    case rel => exact ⟨i + 1, j, k + 1, _, hmg.no hO' hi1 HT.out, (hM3.drewN _).setB (by omega) _, by go_num, by go_num, by go_num⟩
                    case measure => simp [intOf]; omega
                  · have HT : Hid (lessB S (P j) (P i) = true) := ht
                    go_wp2
                    go_quiet ((go_at_call 22; refine Calls.quiet_of (less22 _ b off n cap S (P j) (P i) _ (by unfold maxLen; omega) q2 q1 ?_); exact hM3.s.drewN _))
                    rw [ht]
                    go_wp2
                    go_roundw
                    case rel => exact ⟨i, j + 1, k + 1, _, hmg.yes hO' hj1 HT.out, (hM3.drewN _).setB (by omega) _, by go_num, by go_num, by go_num⟩
                    case measure => simp [intOf]; omega
                · have hor : ¬ i < (lo + d) ∨ (i < (lo + d) ∧ ¬ j < (lo + d + d)) := by omega
                  clear hboth
                  rcases hor with hx | ⟨hx, hy⟩
                  all_goals
                    go_wp2
                    go_loopw [10, 12] (fun zi zk wq => ∃ (i k : Nat) (B' : Nat → Nat), (i < (lo + d) → j = (lo + d + d)) ∧ Sorting.Merge (lessB S) P B1 lo (lo + d) (lo + d + d) i j k B' ∧ Mem w wq a b off n S gp w.heap.size P B' ∧ zi = .int .i64 i ∧ zk = .int .i64 k) (fun zi _ _ => (lo + d) - (intOf zi).toNat)
                    case atStart => exact ⟨i, k, B2, by omega, hmg, hM3, rfl, rfl⟩
                    case round =>
                      clear hM3 hmg e1 e2 e3 e4 ek hx
                      try clear hy
                      obtain ⟨i4, k4, B4, hje, hmg, hM3, rfl, rfl⟩ := hrel
                      have e1 := hmg.l1; have e2 := hmg.l2; have e3 := hmg.l3; have e4 := hmg.l4; have ek := hmg.lk
                      by_cases hi4 : i4 < (lo + d)
                      · have hje' := hje hi4
                        have c1 := hM3.pc (show i4 < n by omega)
                        have c3 := hM3.bc (show k4 < n by omega)
                        have c4 := hM3.bf.free k4
                        have HJ : Hid (j = (lo + d + d)) := hje'
                        clear hje' hje
                        go_wp2
                        go_roundw
                        case rel => exact ⟨i4 + 1, k4 + 1, _, fun _ => HJ.out, hmg.takeI hi4 (fun q hq1 hq2 => by have := HJ.out; omega), hM3.setB (by have := HJ.out; omega) _, by go_num, by go_num⟩
                        case measure => simp [intOf]; omega
                      · have hi5 : i4 = (lo + d) := by omega
                        have HI5 : Hid (i4 = (lo + d)) := hi5
                        clear hi5 hje
                        go_wp2
                        go_loopw [11, 12] (fun zj zk wq => ∃ (j k : Nat) (B' : Nat → Nat), Sorting.Merge (lessB S) P B1 lo (lo + d) (lo + d + d) i4 j k B' ∧ Mem w wq a b off n S gp w.heap.size P B' ∧ zj = .int .i64 j ∧ zk = .int .i64 k) (fun zj _ _ => (lo + d + d) - (intOf zj).toNat)
                        case atStart => exact ⟨j, k4, B4, hmg, hM3, rfl, rfl⟩
                        case round =>
                          clear hM3 hmg e1 e2 e3 e4 ek
                          obtain ⟨j5, k5, B5, hmg, hM3, rfl, rfl⟩ := hrel
                          have e1 := hmg.l1; have e2 := hmg.l2; have e3 := hmg.l3; have e4 := hmg.l4; have ek := hmg.lk
                          by_cases hj5 : j5 < (lo + d + d)
                          · have c1 := hM3.pc (show j5 < n by omega)
                            have c3 := hM3.bc (show k5 < n by omega)
                            have c4 := hM3.bf.free k5
                            go_wp2
                            go_roundw
                            case rel => exact ⟨j5 + 1, k5 + 1, _, hmg.takeJ hj5 (fun q hq1 hq2 => by have := HI5.out; omega), hM3.setB (by omega) _, by go_num, by go_num⟩
                            case measure => simp [intOf]; omega
                          · have hj6 : j5 = (lo + d + d) := by omega
                            have hk6 : k5 = (lo + d + d) := by omega
                            have hend : Sorting.Merge (lessB S) P B1 lo (lo + d) (lo + d + d) (lo + d) (lo + d + d) (lo + d + d) B5 := by have h := hmg; rw [HI5.out, hj6, hk6] at h; exact h
                            have hnext := hpass.next hlo hend (by omega) (by omega)
                            clear hj6 hk6 hend
                            go_wp2
                            go_roundw
                            case rel => exact ⟨m + 1, _, B5, hnext, hM3, by go_num⟩
                            case measure => simp [intOf]; omega

        · have hlo2 : lo = n := by omega
          have hdone := by rw [hlo2] at hpass; exact hpass.done hO1.out
          clear hlo2
          go_wp2
          go_loopw [13] (fun z wq => ∃ (t : Nat) (P' : Nat → Nat), t ≤ n ∧ Hid (∀ j, j < t → P' j = B1 j) ∧ Mem w wq a b off n S gp w.heap.size P' B1 ∧ z = .int .i64 t) (fun z _ => n - (intOf z).toNat)
          case atStart => exact ⟨0, P, Nat.zero_le _, fun j hj => absurd hj (by omega), hM2, rfl⟩
          case round =>
            clear hM2
            obtain ⟨t, P2, ht, hag, hM3, rfl⟩ := hrel
            by_cases htn : t < n
            · have c1 := hM3.bc htn
              have c3 := hM3.pc htn
              have c4 := hM3.p.free t
              go_wp2
              go_roundw
              case rel =>
                refine ⟨t + 1, _, by omega, fun j hj => ?_, hM3.setP htn _, by go_num⟩
                by_cases e : j = t
                · subst e; rw [Sorting.put_same]
                · rw [Sorting.put_other _ _ e]; exact hag.out j (by omega)
              case measure => simp [intOf]; omega
            · have hag2 : ∀ j, j < n → P2 j = B1 j := fun j hj => hag.out j (by omega)
              have HR := hdone.1.congr hag2
              have HO2 : Hid (Sorting.Once P2 n) := hdone.2.congr hag2
              rw [Nat.mul_comm] at HR
              clear hag2 hdone hag
              go_wp2
              go_roundw
              case rel => exact ⟨d * 2, P2, B1, by omega, by omega, HR, HO2, hM3, by go_num⟩
              case measure => simp [intOf]; omega
    · go_wp2
      go_end0
      exact ⟨rfl, P, hM.p, hO1.out, fun p q hpq hq => hruns.sorted (by omega) hpq hq, hM.bel⟩
end Go.Proofs.Qxb6617809a
