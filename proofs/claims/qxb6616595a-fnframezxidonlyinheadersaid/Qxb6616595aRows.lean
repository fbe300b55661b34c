/-
  No cell of these rows narrows 'for every input' (looked for: loops, veiled, ifaces, maps, wideKeys, modest, calm, conditions, laid).
  DERIVED. THE GIVEN ROWS OF THIS SEAT. 2 by the template 'for every input the law returns true; each argument reads behind the call as it read before'; 0 by the template 'total and deterministic' (their statements: Qxb6616595aTotals.lean).
  GIVEN WITH THE SEED: the statements are not yours to turn. If you find one false, say at which input.
  Laid BY PROGRAM, IN A SANDBOX (cutbox-rows.mjs): the forced cells as the released guide's own fill.sh prints them over the translation d13448f9b7a3344b… (all of the seat's roots in one cut). By AI agents, Wed Nov 11 2026. No macro, syntax, notation, axiom, sorry.
-/
import Derived.Test.Qxb6616595aChecked
import GoSem.Claim
import GoSem.ClaimJoined
import GoSem.ClaimMapViews
import Derived.JoinedTies
import Derived.KernelRfl
namespace Go.Proofs.Qxb6616595a
/- THE CELL 'sum', in the pinned program and in every row, IS THE sha256 OF THE DUMP (.gsa) THAT Qxb6616595aProg.lean LOADS. Nothing in Lean hashes anything: it is a label: what it is worth is what the hold of that sum in a sandbox is worth. -/
noncomputable def Try.pinned : Pinned := { name := "qxb6616595a", sum := "d13448f9b7a3344b316c87ddd82091b466a7b4f4f3c1f98feb3f9dc5cc9c7139", checked := Try.checked }
namespace Rows
def none {H : Type} : Left H := { results := [], args := [] }

/-- 'zzlaws_internal_wire_b1.FnLongIsTwoIntsHighFirst': WHATEVER THE INPUT: true; the input reads as it did. -/
def fnLongIsTwoIntsHighFirstSpec : ChangeSpec := { name := "fnLongIsTwoIntsHighFirst", fn := fun _ => fun
  | [d1, d2, d3] => { results := [.lit (.bool true)], args := [d1, d2, d3] }
  | _ => none }
def fnLongIsTwoIntsHighFirstRow : OpenClaim := { program := "qxb6616595a", sum := "d13448f9b7a3344b316c87ddd82091b466a7b4f4f3c1f98feb3f9dc5cc9c7139", func := "example.com/treety/treety/zzlaws_internal_wire_b1.FnLongIsTwoIntsHighFirst", spec := "fnLongIsTwoIntsHighFirst", named := ["encoding/binary.BigEndian"], apart := false }
def FnLongIsTwoIntsHighFirstSaid : Prop := fnLongIsTwoIntsHighFirstRow.holds Try.pinned (OpenSpec.ofChange fnLongIsTwoIntsHighFirstSpec)

/-- ITS FALSE NEIGHBOUR: 'it returns false'. Refute it at one input. -/
def fnLongIsTwoIntsHighFirstWrong : ChangeSpec := { name := "fnLongIsTwoIntsHighFirst", fn := fun _ => fun
  | [d1, d2, d3] => { results := [.lit (.bool false)], args := [d1, d2, d3] }
  | _ => none }
def FnLongIsTwoIntsHighFirstWrongFalsely : Prop := fnLongIsTwoIntsHighFirstRow.holds Try.pinned (OpenSpec.ofChange fnLongIsTwoIntsHighFirstWrong)

/-- 'zzlaws_internal_wire_b1.FnFrameZxidOnlyInHeader': WHATEVER THE INPUT: true; the input reads as it did. -/
def fnFrameZxidOnlyInHeaderSpec : ChangeSpec := { name := "fnFrameZxidOnlyInHeader", fn := fun _ => fun
  | [d1, d2, d3, d4] => { results := [.lit (.bool true)], args := [d1, d2, d3, d4] }
  | _ => none }
def fnFrameZxidOnlyInHeaderRow : OpenClaim := { program := "qxb6616595a", sum := "d13448f9b7a3344b316c87ddd82091b466a7b4f4f3c1f98feb3f9dc5cc9c7139", func := "example.com/treety/treety/zzlaws_internal_wire_b1.FnFrameZxidOnlyInHeader", spec := "fnFrameZxidOnlyInHeader", named := ["encoding/binary.BigEndian"], apart := false }
def FnFrameZxidOnlyInHeaderSaid : Prop := fnFrameZxidOnlyInHeaderRow.holds Try.pinned (OpenSpec.ofChange fnFrameZxidOnlyInHeaderSpec)

/-- ITS FALSE NEIGHBOUR: 'it returns false'. Refute it at one input. -/
def fnFrameZxidOnlyInHeaderWrong : ChangeSpec := { name := "fnFrameZxidOnlyInHeader", fn := fun _ => fun
  | [d1, d2, d3, d4] => { results := [.lit (.bool false)], args := [d1, d2, d3, d4] }
  | _ => none }
def FnFrameZxidOnlyInHeaderWrongFalsely : Prop := fnFrameZxidOnlyInHeaderRow.holds Try.pinned (OpenSpec.ofChange fnFrameZxidOnlyInHeaderWrong)

end Rows
end Go.Proofs.Qxb6616595a
