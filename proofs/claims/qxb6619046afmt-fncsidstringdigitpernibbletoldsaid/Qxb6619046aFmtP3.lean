import Derived.Test.Qxb6619046aFmtW
import Derived.Test.Qxb6619046aFmtCards
import Derived.ProofKit
import Derived.Stop.JoinedAt
import Derived.Stop.Texts
import Derived.Stop.JoinedTold
import Derived.SizedLaws
import Derived.OpenShut
import Derived.SevenToldRow
namespace Go.Proofs.Qxb6619046aFmt
open Go.ChangeShapes Go.WideShapes Go.ChangeAt Go.RowKit Go.Kit
open Go.Extern.Stop Go.Stop Go.Extern

theorem Tryf.own : ownKnob Tryf.prog.godebug = none := by kernel_rfl
theorem Tryf.laidOut : laidOutB Tryf.pinned.checked.prog = true := by kernel_rfl
theorem Tryf.stops : Tryf.pinned.checked.prog.stops = ["fmt.Sprintf"] := by kernel_rfl
theorem Tryf.stopKnobs : Tryf.pinned.checked.prog.stopKnobs = [] := by kernel_rfl
theorem Tryf.quiet (os : Os) : Stop.quiet Tryf.pinned.checked.prog os := by
  intro k hk
  rw [Tryf.stopKnobs] at hk
  cases hk

/-- a byte as a natural number -/
theorem byte_nat {x : Int} (h : (Lit.int .u8 x).wf = true) : ∃ c : Nat, c < 256 ∧ x = c := by
  have hb := bounds_u8 h
  exact ⟨x.toNat, by omega, by omega⟩

set_option maxRecDepth 100000 in
theorem lifted3 (os : Os) (started : os.Started) (H : Type) (enc : TypeId × Value → H) :
    ReturnsInTold none {} Tryf.checked os 3 .any Input.okWide ((OpenSpec.ofChange Rows.fnCSIDStringReadsBackInOrderSpec).preRow enc Tryf.prog Tryf.f3 [] false []) (fun F => ((OpenSpec.ofChange Rows.fnCSIDStringReadsBackInOrderSpec).at F).post enc Tryf.prog Tryf.f3 false true false false) (aloneAtReturn Tryf.prog) nothingAlways := by
  refine returnsInTold_of_row (C := Tryf.checked) (s := OpenSpec.ofChange Rows.fnCSIDStringReadsBackInOrderSpec) (by kernel_rfl) Tryf.own started (by kernel_rfl) Tryf.func3
    (OpenSpec.witness_stopped (enc := enc) (C := Tryf.checked) false ⟨#[], #[.int .u8 1, .int .u8 1], []⟩ 8 (by kernel_rfl) (by kernel_rfl) (by kernel_rfl) (by kernel_rfl)) ?_
  intro F W base args ds gs before _ hF hval0 hW _ _ _ _ _
  have hval : ∀ (j : Nat) t v, Tryf.f3.params[j]? = some t → args[j]? = some v → Value.okWide Tryf.prog W .any base t v := hval0
  have hW' := hW
  obtain ⟨p, q, hA0, hV, rfl, hfz, hnd⟩ := hW
  have hA : DataW.TrodAll enc Tryf.prog W 0 (fun _ => true) true Tryf.f3.params.toList args.toList ds p := hA0
  rw [Tryf.params3] at hA hval
  obtain ⟨v0, v1, d0, d1, p0, p1, rfl, rfl, rfl, h0, h1⟩ := trodAll_two hA
  obtain ⟨rfl, rfl⟩ := trodVars_none hV
  obtain ⟨x, rfl, rfl, rfl, wx⟩ := open_int Tryf.underlying5 (hval 0 5 v0 rfl rfl) h0
  obtain ⟨y, rfl, rfl, rfl, wy⟩ := open_int Tryf.underlying5 (hval 1 5 v1 rfl rfl) h1
  clear hA0 hval0
  obtain ⟨c, hc, rfl⟩ := byte_nat wx
  obtain ⟨d, hd, rfl⟩ := byte_nat wy
  refine (walk3 F c d hc hd W hF).mono fun e W' ⟨he, bel⟩ => ?_
  subst he
  exact ⟨_, rfl, _, _, _, [], [], [], hW', trodAll_mk1 (shut_bool Tryf.underlying4 _), trodAll_mk2 (shut_int Tryf.underlying5 wx) (shut_int Tryf.underlying5 wy), rfl, bel.frame _, fun h => by cases h⟩

theorem csidReadsBack : Rows.FnCSIDStringReadsBackInOrderToldSaid :=
  Claim7.holds_of_told_any 3 Tryf.f3 "fmt.Sprintf" [] [] _ _ _ (by kernel_rfl) rfl rfl rfl Tryf.laidOut (by kernel_rfl) rfl ⟨rfl, rfl, rfl, rfl, rfl, rfl, rfl⟩ rfl rfl (by kernel_rfl) (by kernel_rfl) Tryf.func3 (by kernel_rfl)
    (of_decide_eq_true (by kernel_rfl)) (of_decide_eq_true (by kernel_rfl)) Tryf.stops.symm rfl Tryf.stopKnobs.symm (by kernel_rfl)
    (by kernel_rfl) (by kernel_rfl) (by kernel_rfl) (by kernel_rfl) (by kernel_rfl) (by kernel_rfl) (by kernel_rfl) (by kernel_rfl) (by kernel_rfl) rfl (by kernel_rfl) rfl rfl
    rfl rfl
    rfl (by kernel_rfl) (by kernel_rfl) (by kernel_rfl) (by decide) (by kernel_rfl)
    (OpenClaim.moreEntering_of (by kernel_rfl) (by kernel_rfl) (by kernel_rfl) (by kernel_rfl) (by kernel_rfl) (by kernel_rfl) (by kernel_rfl) (by kernel_rfl) (by kernel_rfl) (by kernel_rfl))
    ⟨_, WideRow.started_initial, Tryf.quiet _⟩
    (fun os started _ H enc _ => lifted3 os started H enc)
#print axioms csidReadsBack
end Go.Proofs.Qxb6619046aFmt
