/-
  No cell of these rows narrows 'for every input' (looked for: loops, veiled, ifaces, maps, wideKeys, modest, calm, conditions, laid).
  DERIVED. THE GIVEN ROWS OF THIS SEAT. 2 by the template 'for every input the law returns true; each argument reads behind the call as it read before'; 0 by the template 'total and deterministic' (their statements: Qxb6619046aFmtTotals.lean).
  GIVEN WITH THE SEED: the statements are not yours to turn. If you find one false, say at which input.
  Laid BY PROGRAM, IN A SANDBOX (cutbox-rows.mjs): the forced cells as the released guide's own fill.sh prints them over the translation 03d4cca4742e2aff… (all of the seat's roots in one cut). By AI agents, Wed Nov 11 2026. No macro, syntax, notation, axiom, sorry.
-/
import Derived.Test.Qxb6619046aFmtChecked
import GoSem.Claim
import GoSem.ClaimJoined
import GoSem.ClaimMapViews
import Derived.JoinedTies
import Derived.KernelRfl
namespace Go.Proofs.Qxb6619046aFmt
/- THE CELL 'sum', in the pinned program and in every row, IS THE sha256 OF THE DUMP (.gsa) THAT Qxb6619046aFmtProg.lean LOADS. Nothing in Lean hashes anything: it is a label: what it is worth is what the hold of that sum in a sandbox is worth. -/
noncomputable def Tryf.pinned : Pinned := { name := "qxb6619046afmt", sum := "03d4cca4742e2aff7da4f46f9dd5c824c8fe54c3a3f0ee209f3c5cdaf52a1de7", checked := Tryf.checked }
namespace Rows
def none {H : Type} : Left H := { results := [], args := [] }

/-- 'zzlaws_hashname_b1.FnCSIDStringReadsBackInOrder': WHATEVER THE INPUT: true; the input reads as it did. -/
def fnCSIDStringReadsBackInOrderSpec : ChangeSpec := { name := "fnCSIDStringReadsBackInOrder", fn := fun _ => fun
  | [d1, d2] => { results := [.lit (.bool true)], args := [d1, d2] }
  | _ => none }
def fnCSIDStringReadsBackInOrderRow : OpenClaim := { program := "qxb6619046afmt", sum := "03d4cca4742e2aff7da4f46f9dd5c824c8fe54c3a3f0ee209f3c5cdaf52a1de7", func := "example.com/wireloom/wireloom/zzlaws_hashname_b1.FnCSIDStringReadsBackInOrder", spec := "fnCSIDStringReadsBackInOrder", stops := ["fmt.Sprintf"], inPlace := ["fmt.Sprintf"], apart := false }
/-- NO THEOREM (fmt's text is open here; it may be false): for the released tool's asking of the row's closed facts alone. THE STATEMENT IS 'FnCSIDStringReadsBackInOrderToldSaid' (Qxb6619046aFmtCards.lean). -/
def FnCSIDStringReadsBackInOrderFormAsk : Prop := fnCSIDStringReadsBackInOrderRow.holds Tryf.pinned (OpenSpec.ofChange fnCSIDStringReadsBackInOrderSpec)

/-- ITS FALSE NEIGHBOUR: 'it returns false'. Refute it at one input. -/
def fnCSIDStringReadsBackInOrderWrong : ChangeSpec := { name := "fnCSIDStringReadsBackInOrder", fn := fun _ => fun
  | [d1, d2] => { results := [.lit (.bool false)], args := [d1, d2] }
  | _ => none }
def FnCSIDStringReadsBackInOrderWrongFormAsk : Prop := fnCSIDStringReadsBackInOrderRow.holds Tryf.pinned (OpenSpec.ofChange fnCSIDStringReadsBackInOrderWrong)

/-- 'zzlaws_hashname_b1.FnCSIDStringDigitPerNibble': WHATEVER THE INPUT: true; the input reads as it did. -/
def fnCSIDStringDigitPerNibbleSpec : ChangeSpec := { name := "fnCSIDStringDigitPerNibble", fn := fun _ => fun
  | [d] => { results := [.lit (.bool true)], args := [d] }
  | _ => none }
def fnCSIDStringDigitPerNibbleRow : OpenClaim := { program := "qxb6619046afmt", sum := "03d4cca4742e2aff7da4f46f9dd5c824c8fe54c3a3f0ee209f3c5cdaf52a1de7", func := "example.com/wireloom/wireloom/zzlaws_hashname_b1.FnCSIDStringDigitPerNibble", spec := "fnCSIDStringDigitPerNibble", stops := ["fmt.Sprintf"], inPlace := ["fmt.Sprintf"], apart := false }
/-- NO THEOREM (fmt's text is open here; it may be false): for the released tool's asking of the row's closed facts alone. THE STATEMENT IS 'FnCSIDStringDigitPerNibbleToldSaid' (Qxb6619046aFmtCards.lean). -/
def FnCSIDStringDigitPerNibbleFormAsk : Prop := fnCSIDStringDigitPerNibbleRow.holds Tryf.pinned (OpenSpec.ofChange fnCSIDStringDigitPerNibbleSpec)

/-- ITS FALSE NEIGHBOUR: 'it returns false'. Refute it at one input. -/
def fnCSIDStringDigitPerNibbleWrong : ChangeSpec := { name := "fnCSIDStringDigitPerNibble", fn := fun _ => fun
  | [d] => { results := [.lit (.bool false)], args := [d] }
  | _ => none }
def FnCSIDStringDigitPerNibbleWrongFormAsk : Prop := fnCSIDStringDigitPerNibbleRow.holds Tryf.pinned (OpenSpec.ofChange fnCSIDStringDigitPerNibbleWrong)

end Rows
end Go.Proofs.Qxb6619046aFmt
