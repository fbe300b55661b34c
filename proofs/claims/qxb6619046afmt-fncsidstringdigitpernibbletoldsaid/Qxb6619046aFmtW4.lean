import Derived.Test.Qxb6619046aFmtW
import Derived.Deep.RegionWith
namespace Go.Proofs.Qxb6619046aFmt
open Go.RowKit Go.Extern.Stop Go.Stop Go.Extern Go.Kit

theorem and240 : ∀ c : Fin 256, bits BinOp.and IntKind.u8 (c.val : Int) 240 = ((c.val / 16 * 16 : Nat) : Int) := by decide +kernel
theorem and15 : ∀ c : Fin 256, bits BinOp.and IntKind.u8 (c.val : Int) 15 = ((c.val % 16 : Nat) : Int) := by decide +kernel

theorem str5' (F : Interp) (x : Int) (c : Nat) (h : c < 256) (hx : x = c) (w : World) (hF : F.told.answers w.tape) :
    Calls Tryf.prog 5 #[.int .u8 x] w fun e w' => e = .returned (.string (hexText c)) ∧ Below w.heap.size w w' := by
  rw [hx]; exact str5 F c h w hF

theorem hexVal6q (x : Int) (d : Nat) (h : d < 16) (hx : x = hv d) (w : World) : Calls Tryf.prog 6 #[.int .u8 x] w fun e w' => e = .returned (.int .i64 d) ∧ w' = w :=
  (hexVal6' x d h hx w).mono fun _ _ ⟨a, b⟩ => ⟨a, b.symm⟩

set_option maxHeartbeats 1000000 in
theorem walk4 (F : Interp) (c : Nat) (hc : c < 256) (w : World) (hF : F.told.answers w.tape) :
    Calls Tryf.prog 4 #[.int .u8 c] w fun e w' => e = .returned (.bool true) ∧ Below w.heap.size w w' := by
  obtain ⟨hi, hhi⟩ : ∃ hi, hi = c / 16 * 16 := ⟨_, rfl⟩
  obtain ⟨lo, hlo⟩ : ∃ lo, lo = c % 16 := ⟨_, rfl⟩
  have a1 : bits BinOp.and IntKind.u8 (c : Int) 240 = (hi : Int) := by rw [hhi]; exact and240 ⟨c, hc⟩
  have a2 : bits BinOp.and IntKind.u8 (c : Int) 15 = (lo : Int) := by rw [hlo]; exact and15 ⟨c, hc⟩
  have b1 : hi < 256 := by omega
  have b2 : lo < 16 := by omega
  have HI : Hid (hi = c / 16 * 16) := hhi
  have HL : Hid (lo = c % 16) := hlo
  clear hhi hlo
  go_enter Tryf.func4, Tryf.ntmps4
  go_wp2_with fail
  refine (str5 F c hc _ hF).mono ?_
  rintro e w1 ⟨rfl, hb1⟩
  go_wp2_with fail
  refine (str5' F _ hi b1 (by first | rfl | exact a1) _ (by rw [hb1.tape]; exact hF)).mono ?_
  rintro e w2 ⟨rfl, hb2⟩
  go_wp2_with fail
  refine (str5' F _ lo (by omega) (by first | rfl | exact a2) _ (by rw [hb2.tape, hb1.tape]; exact hF)).mono ?_
  rintro e w3 ⟨rfl, hb3⟩
  have hbw := (hb1.trans (hb2.mono hb1.size)).trans (hb3.mono (Nat.le_trans hb1.size hb2.size))
  clear hb1 hb2 hb3
  have s1 : 0 < (hexText c).size := Nat.zero_lt_succ _
  have s2 : 1 < (hexText c).size := Nat.lt_succ_self _
  have s3 : 0 < (hexText hi).size := Nat.zero_lt_succ _
  have s4 : 1 < (hexText hi).size := Nat.lt_succ_self _
  have s5 : 0 < (hexText lo).size := Nat.zero_lt_succ _
  have s6 : 1 < (hexText lo).size := Nat.lt_succ_self _
  have z1 := size_hex c
  have z2 := size_hex hi
  have z3 := size_hex lo
  obtain ⟨u, hu⟩ : ∃ u : Int, u = hv (c / 16) := ⟨_, rfl⟩
  obtain ⟨v, hv'⟩ : ∃ v : Int, v = hv lo := ⟨_, rfl⟩
  have e1 : ∀ h, (((hexText c)[0]'h).toNat : Int) = u := fun h => by rw [hu]; exact dig0 c hc h
  have e2 : ∀ h, (((hexText hi)[0]'h).toNat : Int) = u := fun h => by rw [hu, dig0 hi b1 h, show hi / 16 = c / 16 by have := HI.out; omega]
  have e3 : ∀ h, (((hexText c)[1]'h).toNat : Int) = v := fun h => by rw [hv', dig1 c h, show c % 16 = lo from HL.out.symm]
  have e4 : ∀ h, (((hexText lo)[1]'h).toNat : Int) = v := fun h => by rw [hv', dig1 lo h, show lo % 16 = lo by omega]
  have e5 : ∀ h, (((hexText hi)[1]'h).toNat : Int) = 48 := fun h => by rw [dig1 hi h, show hi % 16 = 0 by have := HI.out; omega]; rfl
  have e6 : ∀ h, (((hexText lo)[0]'h).toNat : Int) = 48 := fun h => by rw [dig0 lo (by omega) h, show lo / 16 = 0 by omega]; rfl
  have HU : Hid (u = hv (c / 16)) := hu
  have HV : Hid (v = hv lo) := hv'
  clear hu hv'
  go_wp2_with fail
  have k1 : c / 16 < 16 := by omega
  go_quiet (first | (go_at_call_of 6 (Value.int IntKind.u8 u); exact Calls.quiet_of_same (hexVal6q u (c / 16) k1 HU.out _)) | (go_at_call_of 6 (Value.int IntKind.u8 v); exact Calls.quiet_of_same (hexVal6q v lo b2 HV.out _)))
  go_wp2
  go_ret
  exact ⟨rfl, ⟨hbw.os, hbw.tape, hbw.output, hbw.size, hbw.block⟩⟩
end Go.Proofs.Qxb6619046aFmt
