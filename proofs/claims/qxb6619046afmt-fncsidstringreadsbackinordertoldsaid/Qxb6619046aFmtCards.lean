/-
  DERIVED. GIVEN WITH THE SEED: THE CARDS: each row of Qxb6619046aFmtRows.lean that lists a variable, with what it lists TIED to the program's text (the seventh form; the later family's looks); each row that meets fmt, with fmt's text TOLD by the authors' own Lean function (tested against real Go, not proved from fmt's source: count such statements apart). THE CARD IS WHAT COUNTS. Prove the row's statement (the work); the ties are given (Qxb6619046aFmtTie.lean); close each card by the builder's one call (the guide's Derived/Test/ToyasCard.lean, 'card_holds'). Laid BY PROGRAM, IN A SANDBOX (cutbox-door.mjs). By AI agents, Wed Nov 11 2026. No macro, syntax, notation, axiom, sorry.
-/
import Derived.Test.Qxb6619046aFmtRows
import GoSem.ClaimSeven
namespace Go.Proofs.Qxb6619046aFmt
namespace Rows

/-- THE TOLD CARD OF 'zzlaws_hashname_b1.FnCSIDStringReadsBackInOrder'. -/
def fnCSIDStringReadsBackInOrderCard : Claim7 := { stood := { row := fnCSIDStringReadsBackInOrderRow, standIns := [], harness := (true, "73948dc80ee13d9ad7dce6fa766a6e1730ca26730ee0f9583557cd3cd571a184"), looks := false }, told := true, goes := false }
def FnCSIDStringReadsBackInOrderToldSaid : Prop := Claim7.holds Tryf.pinned (.plain (OpenSpec.ofChange fnCSIDStringReadsBackInOrderSpec)) fnCSIDStringReadsBackInOrderCard
/-- ITS FALSE NEIGHBOUR. Refute it at one input. -/
def FnCSIDStringReadsBackInOrderToldWrongFalsely : Prop := Claim7.holds Tryf.pinned (.plain (OpenSpec.ofChange fnCSIDStringReadsBackInOrderWrong)) fnCSIDStringReadsBackInOrderCard

/-- THE TOLD CARD OF 'zzlaws_hashname_b1.FnCSIDStringDigitPerNibble'. -/
def fnCSIDStringDigitPerNibbleCard : Claim7 := { stood := { row := fnCSIDStringDigitPerNibbleRow, standIns := [], harness := (true, "73948dc80ee13d9ad7dce6fa766a6e1730ca26730ee0f9583557cd3cd571a184"), looks := false }, told := true, goes := false }
def FnCSIDStringDigitPerNibbleToldSaid : Prop := Claim7.holds Tryf.pinned (.plain (OpenSpec.ofChange fnCSIDStringDigitPerNibbleSpec)) fnCSIDStringDigitPerNibbleCard
/-- ITS FALSE NEIGHBOUR. Refute it at one input. -/
def FnCSIDStringDigitPerNibbleToldWrongFalsely : Prop := Claim7.holds Tryf.pinned (.plain (OpenSpec.ofChange fnCSIDStringDigitPerNibbleWrong)) fnCSIDStringDigitPerNibbleCard
end Rows
end Go.Proofs.Qxb6619046aFmt
