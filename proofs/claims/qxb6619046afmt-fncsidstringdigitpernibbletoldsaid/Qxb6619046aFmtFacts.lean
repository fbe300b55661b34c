import Derived.Test.Qxb6619046aFmtRows
import Derived.Stop.CallBack
import Derived.Stop.IfaceNil
import Derived.Stop.Texts
import Derived.Stop.Told
import Derived.Stop.FmtTextKit
import Derived.Stop.FmtTextWidths
import Derived.WalkKit
import Derived.WalkSpells
import Derived.WalkLawsBesides
namespace Go.Proofs.Qxb6619046aFmt
open Go.RowKit Go.Extern.Stop Go.Stop Go.Extern Go.Kit

theorem call7 (args : Array Value) (w : World) : (callFunc 7 args).run Tryf.prog w = ((FmtStop.sprintf #[9, 44] #[9] args).run Tryf.prog w).andThen fun v w' => .ok (.value v) w' :=
  run_callFunc_extern Tryf.func7 (by kernel_rfl) (by kernel_rfl) (by kernel_rfl) (by kernel_rfl) args w
theorem guard7 (name : String) (w : World) : (FmtStop.guard name).run Tryf.prog w = .ok () w := by kernel_rfl
theorem fmt0 : FmtStop.printed? ⟨#[37, 48, 50, 120]⟩ 1 = some [(0, 120, false)] := by kernel_rfl
theorem fmt0r (w : World) : (FmtDoors.printed ⟨#[37, 48, 50, 120]⟩ 1).run Tryf.prog w = .ok [(0, 120, false)] w := by kernel_rfl
theorem fmt0t : (FmtText.parse [37, 48, 50, 120]).map FmtText.glue = some [.verb { widPresent := true, wid := 2, zero := true } 120] := by rfl
def shape5 : List UInt8 := [6, 5, 0, 0, 0, 0, 0, 0, 0, 117, 105, 110, 116, 56]
theorem op5_120 (name : String) (x : Int) (w : World) : (FmtStop.operand name false 120 false (.iface 5 (.int .u8 x))).run Tryf.prog w = .ok (shape5, Go.Extern.Stop.digits 8 (x % 2 ^ 64).toNat) w := by kernel_rfl

/-- a hexadecimal digit's sign -/
def hx (d : Nat) : UInt8 := FmtText.digit false d
/-- the two digits of a byte -/
def hexText (c : Nat) : ByteArray := ⟨#[hx (c / 16), hx (c % 16)]⟩

/-- what fmt is asked at Sprintf("%02x", c) -/
def rd (c : Int) : List (List UInt8) := [[37, 48, 50, 120], shape5, digits 8 (c % 18446744073709551616).toNat]

theorem text_of (c : Nat) (h : c < 256) : FmtText.text "fmt.Sprintf" (rd c) = some [hx (c / 16), hx (c % 16)] := by
  have hw : (Lit.int .u8 (c : Int)).wf = true := WalkArith.wf_u8 (by omega)
  have hi := FmtText.operand_int_at (sh := shape5) (k := .u8) rfl rfl (c : Int) hw
  rw [rd, FmtText.text_sprintf_glued fmt0t (FmtText.operands_cons hi FmtText.operands_nil)]
  simp [FmtText.render, hx]
  have h3 := FmtText.printArg_02x_byte false [117, 105, 110, 116, 56] (c : Int) (by omega) (by omega)
  rw [Int.toNat_natCast] at h3
  exact h3

theorem told_text (F : Interp) (c : Nat) (h : c < 256) : FmtStop.textOf (F.told "fmt.Sprintf" (rd c) 0) = hexText c := by
  have ht := told_string F (text_of c h) (by simp)
  have h2 := textOf_list F.told "fmt.Sprintf" (rd c)
  rw [ht] at h2
  exact ByteArray.ext (Array.toList_inj.mp (by rw [h2]; rfl))

set_option maxHeartbeats 400000 in
theorem str5_any (F : Interp) (c : Int) (w : World) (hF : F.answers w.tape) :
    Calls Tryf.prog 5 #[.int .u8 c] w fun e w' => e = .returned (.string (FmtStop.textOf (F "fmt.Sprintf" (rd c) 0))) ∧ w' = (w.alloc (.cells #[.iface 5 (.int .u8 c)] 20)).drew := by
  have hF' := answers_open hF
  have k1 := call7; have k2 := guard7; have k3 := fmt0; have k4 := fmt0r; have k5 := op5_120
  go_enter Tryf.func5, Tryf.ntmps5
  go_wp2
  go_ret
  exact ⟨rfl, rfl⟩

/-- (CSID).String at the told texts: the two digits. -/
theorem str5 (F : Interp) (c : Nat) (h : c < 256) (w : World) (hF : F.told.answers w.tape) :
    Calls Tryf.prog 5 #[.int .u8 c] w fun e w' => e = .returned (.string (hexText c)) ∧ Below w.heap.size w w' := by
  refine (str5_any F.told c w hF).mono ?_
  rintro e w' ⟨rfl, rfl⟩
  exact ⟨by rw [told_text F c h], ((Below.refl _ _).alloc (Nat.le_refl _) _).drew⟩

/-- a digit's sign as a number -/
def hv (d : Nat) : Int := if d < 10 then 48 + d else 87 + d
theorem hx_toNat : ∀ d : Fin 16, ((hx d.val).toNat : Int) = hv d.val := by decide +kernel
theorem hx_num (d : Nat) (h : d < 16) : ((hx d).toNat : Int) = hv d := hx_toNat ⟨d, h⟩

set_option maxHeartbeats 400000 in
theorem hexVal6 (d : Nat) (h : d < 16) (w : World) : Calls Tryf.prog 6 #[.int .u8 (hv d)] w fun e w' => e = .returned (.int .i64 d) ∧ w = w' := by
  unfold hv
  by_cases h10 : d < 10
  · rw [if_pos h10]
    go_enter Tryf.func6, Tryf.ntmps6
    go_wp2
    go_ret
    exact ⟨by simp; omega, rfl⟩
  · rw [if_neg h10]
    go_enter Tryf.func6, Tryf.ntmps6
    go_wp2
    go_ret
    exact ⟨by simp; omega, rfl⟩
end Go.Proofs.Qxb6619046aFmt
