import Derived.Test.Qxb6619046aFmtFacts
import Derived.Deep.QuietTactic
import Derived.BigQuiet
namespace Go.Proofs.Qxb6619046aFmt
open Go.RowKit Go.Extern.Stop Go.Stop Go.Extern Go.Kit

theorem hx_lt : ∀ a b : Fin 16, decide (hx a.val < hx b.val) = decide (a.val < b.val) := by decide +kernel
theorem hx_eq : ∀ a b : Fin 16, decide (hx a.val = hx b.val) = decide (a.val = b.val) := by decide +kernel
theorem hx_lt' {a b : Nat} (ha : a < 16) (hb : b < 16) : hx a < hx b ↔ a < b := by simpa using hx_lt ⟨a, ha⟩ ⟨b, hb⟩
theorem hx_eq' {a b : Nat} (ha : a < 16) (hb : b < 16) : hx a = hx b ↔ a = b := by simpa using hx_eq ⟨a, ha⟩ ⟨b, hb⟩

theorem hexList (c : Nat) : (hexText c).toList = [hx (c / 16), hx (c % 16)] := by
  rw [ByteArray.toList_eq]; rfl

theorem hex_less {c d : Nat} (hc : c < 256) (hd : d < 256) : Op.bytesLess (hexText c).toList (hexText d).toList = decide (c < d) := by
  rw [hexList, hexList, Bool.eq_iff_iff]
  simp only [Op.bytesLess, Bool.or_eq_true, decide_eq_true_eq, Bool.and_eq_true, beq_iff_eq]
  rw [hx_lt' (by omega) (by omega), hx_eq' (by omega) (by omega), hx_lt' (by omega) (by omega)]
  simp
  omega
theorem hex_same {c d : Nat} (hc : c < 256) (hd : d < 256) : ((hexText c).toList == (hexText d).toList) = decide (c = d) := by
  rw [hexList, hexList, Bool.eq_iff_iff]
  simp only [beq_iff_eq, decide_eq_true_eq, List.cons.injEq, and_true]
  rw [hx_eq' (by omega) (by omega), hx_eq' (by omega) (by omega)]
  omega

theorem hexVal6' (x : Int) (d : Nat) (h : d < 16) (hx : x = hv d) (w : World) : Calls Tryf.prog 6 #[.int .u8 x] w fun e w' => e = .returned (.int .i64 d) ∧ w = w' := by
  rw [hx]; exact hexVal6 d h w
theorem size_hex (c : Nat) : ((hexText c).size : Int) = 2 := rfl
theorem dig0 (c : Nat) (hc : c < 256) (h : 0 < (hexText c).size) : (((hexText c)[0]'h).toNat : Int) = hv (c / 16) := hx_num (c / 16) (by omega)
theorem dig1 (c : Nat) (h : 1 < (hexText c).size) : (((hexText c)[1]'h).toNat : Int) = hv (c % 16) := hx_num (c % 16) (by omega)

set_option maxHeartbeats 1000000 in
theorem walk3 (F : Interp) (c d : Nat) (hc : c < 256) (hd : d < 256) (w : World) (hF : F.told.answers w.tape) :
    Calls Tryf.prog 3 #[.int .u8 c, .int .u8 d] w fun e w' => e = .returned (.bool true) ∧ Below w.heap.size w w' := by
  have s1 : 0 < (hexText c).size := Nat.zero_lt_succ _
  have s2 : 1 < (hexText c).size := Nat.lt_succ_self _
  have s3 : 0 < (hexText d).size := Nat.zero_lt_succ _
  have s4 : 1 < (hexText d).size := Nat.lt_succ_self _
  have s5 := size_hex c
  have s6 := size_hex d
  go_enter Tryf.func3, Tryf.ntmps3
  go_wp2_with fail
  refine (str5 F c hc _ hF).mono ?_
  rintro e w1 ⟨rfl, hb1⟩
  go_wp2_with fail
  refine (str5 F d hd _ (by rw [hb1.tape]; exact hF)).mono ?_
  rintro e w2 ⟨rfl, hb2⟩
  have hbw := hb1.trans (hb2.mono hb1.size)
  clear hb1 hb2
  go_wp2_with fail
  refine (hexVal6' _ (c / 16) (by omega) (dig0 c hc _) _).mono ?_
  rintro e w' ⟨rfl, rfl⟩
  go_wp2_with fail
  refine (hexVal6' _ (c % 16) (by omega) (dig1 c _) _).mono ?_
  rintro e w' ⟨rfl, rfl⟩
  go_wp2_with fail
  refine (hexVal6' _ (d / 16) (by omega) (dig0 d hd _) _).mono ?_
  rintro e w' ⟨rfl, rfl⟩
  go_wp2_with fail
  refine (hexVal6' _ (d % 16) (by omega) (dig1 d _) _).mono ?_
  rintro e w' ⟨rfl, rfl⟩
  have hl := hex_less hc hd
  have he := hex_same hc hd
  go_wp2
  go_ret
  refine ⟨?_, hbw⟩
  by_cases e : c = d
  · subst e; simp
  · have e' : ¬ (c : Int) = (d : Int) := by omega
    simp [e, e']
end Go.Proofs.Qxb6619046aFmt
