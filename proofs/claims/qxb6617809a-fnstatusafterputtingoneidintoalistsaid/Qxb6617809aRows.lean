/-
  No cell of these rows narrows 'for every input' (looked for: loops, veiled, ifaces, maps, wideKeys, modest, calm, conditions, laid).
  DERIVED. THE GIVEN ROWS OF THIS SEAT. 4 by the template 'for every input the law returns true; each argument reads behind the call as it read before'; 0 by the template 'total and deterministic' (their statements: Qxb6617809aTotals.lean).
  GIVEN WITH THE SEED: the statements are not yours to turn. If you find one false, say at which input.
  Laid BY PROGRAM, IN A SANDBOX (cutbox-rows.mjs): the forced cells as the released guide's own fill.sh prints them over the translation f3e3e00d35ef7169… (all of the seat's roots in one cut). By AI agents, Wed Nov 11 2026. No macro, syntax, notation, axiom, sorry.
-/
import Derived.Test.Qxb6617809aChecked
import GoSem.Claim
import GoSem.ClaimJoined
import GoSem.ClaimMapViews
import Derived.JoinedTies
import Derived.KernelRfl
namespace Go.Proofs.Qxb6617809a
/- THE CELL 'sum', in the pinned program and in every row, IS THE sha256 OF THE DUMP (.gsa) THAT Qxb6617809aProg.lean LOADS. Nothing in Lean hashes anything: it is a label: what it is worth is what the hold of that sum in a sandbox is worth. -/
noncomputable def Try.pinned : Pinned := { name := "qxb6617809a", sum := "f3e3e00d35ef7169b0bac8479d39bbacdd4c1b4fa8df1b99a8773f1c23eb41cf", checked := Try.checked }
namespace Rows
def none {H : Type} : Left H := { results := [], args := [] }

/-- 'zzlaws_waitfor_b1.FnRepeatedReturnsEarliestCompletedRepeat': WHATEVER THE INPUT: true; the input reads as it did. -/
def fnRepeatedReturnsEarliestCompletedRepeatSpec : ChangeSpec := { name := "fnRepeatedReturnsEarliestCompletedRepeat", fn := fun _ => fun
  | [d] => { results := [.lit (.bool true)], args := [d] }
  | _ => none }
def fnRepeatedReturnsEarliestCompletedRepeatRow : OpenClaim := { program := "qxb6617809a", sum := "f3e3e00d35ef7169b0bac8479d39bbacdd4c1b4fa8df1b99a8773f1c23eb41cf", func := "example.com/knotwise/knotwise/zzlaws_waitfor_b1.FnRepeatedReturnsEarliestCompletedRepeat", spec := "fnRepeatedReturnsEarliestCompletedRepeat", apart := false }
def FnRepeatedReturnsEarliestCompletedRepeatSaid : Prop := fnRepeatedReturnsEarliestCompletedRepeatRow.holds Try.pinned (OpenSpec.ofChange fnRepeatedReturnsEarliestCompletedRepeatSpec)

/-- ITS FALSE NEIGHBOUR: 'it returns false'. Refute it at one input. -/
def fnRepeatedReturnsEarliestCompletedRepeatWrong : ChangeSpec := { name := "fnRepeatedReturnsEarliestCompletedRepeat", fn := fun _ => fun
  | [d] => { results := [.lit (.bool false)], args := [d] }
  | _ => none }
def FnRepeatedReturnsEarliestCompletedRepeatWrongFalsely : Prop := fnRepeatedReturnsEarliestCompletedRepeatRow.holds Try.pinned (OpenSpec.ofChange fnRepeatedReturnsEarliestCompletedRepeatWrong)

/-- 'zzlaws_waitfor_b1.FnRepeatedAfterAppendingOneOfItsOwnIDs': WHATEVER THE INPUT: true; the input reads as it did. -/
def fnRepeatedAfterAppendingOneOfItsOwnIDsSpec : ChangeSpec := { name := "fnRepeatedAfterAppendingOneOfItsOwnIDs", fn := fun _ => fun
  | [d1, d2] => { results := [.lit (.bool true)], args := [d1, d2] }
  | _ => none }
def fnRepeatedAfterAppendingOneOfItsOwnIDsRow : OpenClaim := { program := "qxb6617809a", sum := "f3e3e00d35ef7169b0bac8479d39bbacdd4c1b4fa8df1b99a8773f1c23eb41cf", func := "example.com/knotwise/knotwise/zzlaws_waitfor_b1.FnRepeatedAfterAppendingOneOfItsOwnIDs", spec := "fnRepeatedAfterAppendingOneOfItsOwnIDs", apart := false }
def FnRepeatedAfterAppendingOneOfItsOwnIDsSaid : Prop := fnRepeatedAfterAppendingOneOfItsOwnIDsRow.holds Try.pinned (OpenSpec.ofChange fnRepeatedAfterAppendingOneOfItsOwnIDsSpec)

/-- ITS FALSE NEIGHBOUR: 'it returns false'. Refute it at one input. -/
def fnRepeatedAfterAppendingOneOfItsOwnIDsWrong : ChangeSpec := { name := "fnRepeatedAfterAppendingOneOfItsOwnIDs", fn := fun _ => fun
  | [d1, d2] => { results := [.lit (.bool false)], args := [d1, d2] }
  | _ => none }
def FnRepeatedAfterAppendingOneOfItsOwnIDsWrongFalsely : Prop := fnRepeatedAfterAppendingOneOfItsOwnIDsRow.holds Try.pinned (OpenSpec.ofChange fnRepeatedAfterAppendingOneOfItsOwnIDsWrong)

/-- 'zzlaws_waitfor_b1.FnStatusOfSplitVerdictIsTheGreaterOfItsHalves': WHATEVER THE INPUT: true; the input reads as it did. -/
def fnStatusOfSplitVerdictIsTheGreaterOfItsHalvesSpec : ChangeSpec := { name := "fnStatusOfSplitVerdictIsTheGreaterOfItsHalves", fn := fun _ => fun
  | [d1, d2, d3, d4, d5] => { results := [.lit (.bool true)], args := [d1, d2, d3, d4, d5] }
  | _ => none }
def fnStatusOfSplitVerdictIsTheGreaterOfItsHalvesRow : OpenClaim := { program := "qxb6617809a", sum := "f3e3e00d35ef7169b0bac8479d39bbacdd4c1b4fa8df1b99a8773f1c23eb41cf", func := "example.com/knotwise/knotwise/zzlaws_waitfor_b1.FnStatusOfSplitVerdictIsTheGreaterOfItsHalves", spec := "fnStatusOfSplitVerdictIsTheGreaterOfItsHalves", apart := false }
def FnStatusOfSplitVerdictIsTheGreaterOfItsHalvesSaid : Prop := fnStatusOfSplitVerdictIsTheGreaterOfItsHalvesRow.holds Try.pinned (OpenSpec.ofChange fnStatusOfSplitVerdictIsTheGreaterOfItsHalvesSpec)

/-- ITS FALSE NEIGHBOUR: 'it returns false'. Refute it at one input. -/
def fnStatusOfSplitVerdictIsTheGreaterOfItsHalvesWrong : ChangeSpec := { name := "fnStatusOfSplitVerdictIsTheGreaterOfItsHalves", fn := fun _ => fun
  | [d1, d2, d3, d4, d5] => { results := [.lit (.bool false)], args := [d1, d2, d3, d4, d5] }
  | _ => none }
def FnStatusOfSplitVerdictIsTheGreaterOfItsHalvesWrongFalsely : Prop := fnStatusOfSplitVerdictIsTheGreaterOfItsHalvesRow.holds Try.pinned (OpenSpec.ofChange fnStatusOfSplitVerdictIsTheGreaterOfItsHalvesWrong)

/-- 'zzlaws_waitfor_b1.FnStatusAfterPuttingOneIDIntoAList': WHATEVER THE INPUT: true; the input reads as it did. -/
def fnStatusAfterPuttingOneIDIntoAListSpec : ChangeSpec := { name := "fnStatusAfterPuttingOneIDIntoAList", fn := fun _ => fun
  | [d1, d2, d3, d4] => { results := [.lit (.bool true)], args := [d1, d2, d3, d4] }
  | _ => none }
def fnStatusAfterPuttingOneIDIntoAListRow : OpenClaim := { program := "qxb6617809a", sum := "f3e3e00d35ef7169b0bac8479d39bbacdd4c1b4fa8df1b99a8773f1c23eb41cf", func := "example.com/knotwise/knotwise/zzlaws_waitfor_b1.FnStatusAfterPuttingOneIDIntoAList", spec := "fnStatusAfterPuttingOneIDIntoAList", apart := false }
def FnStatusAfterPuttingOneIDIntoAListSaid : Prop := fnStatusAfterPuttingOneIDIntoAListRow.holds Try.pinned (OpenSpec.ofChange fnStatusAfterPuttingOneIDIntoAListSpec)

/-- ITS FALSE NEIGHBOUR: 'it returns false'. Refute it at one input. -/
def fnStatusAfterPuttingOneIDIntoAListWrong : ChangeSpec := { name := "fnStatusAfterPuttingOneIDIntoAList", fn := fun _ => fun
  | [d1, d2, d3, d4] => { results := [.lit (.bool false)], args := [d1, d2, d3, d4] }
  | _ => none }
def FnStatusAfterPuttingOneIDIntoAListWrongFalsely : Prop := fnStatusAfterPuttingOneIDIntoAListRow.holds Try.pinned (OpenSpec.ofChange fnStatusAfterPuttingOneIDIntoAListWrong)

end Rows
end Go.Proofs.Qxb6617809a
