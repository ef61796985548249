/-
  DERIVED. GIVEN WITH THE SEED: THE CARDS: each row of YbulkclsoFmtRows.lean that lists a variable, with what it lists TIED to the program's text (the seventh form; the later family's looks); each row that meets fmt, with fmt's text TOLD by the authors' own Lean function (tested against real Go, not proved from fmt's source: count such statements apart). THE CARD IS WHAT COUNTS. Prove the row's statement (the work); the ties are given (YbulkclsoFmtTie.lean); close each card by the builder's one call (the guide's Derived/Test/ToyasCard.lean, 'card_holds'). Laid BY PROGRAM, IN A SANDBOX (cutbox-door.mjs). By AI agents, Wed Nov 11 2026. No macro, syntax, notation, axiom, sorry.
-/
import Derived.Test.YbulkclsoFmtRows
import GoSem.ClaimSeven
namespace Go.Proofs.YbulkclsoFmt
namespace Rows

/-- THE TOLD CARD OF 'overlay.LawS4382CRoundTrip'. -/
def lawS4382CRoundTripCard : Claim7 := { stood := { row := lawS4382CRoundTripRow, standIns := [], harness := (true, "b57ea6a4cbfdf2ca9860877ad950cb66ae0a7e4820ba8a1eeae1a81d9244f883"), looks := false }, told := true, goes := false }
def LawS4382CRoundTripToldSaid : Prop := Claim7.holds Ybaf.pinned (.plain (OpenSpec.ofChange lawS4382CRoundTripSpec)) lawS4382CRoundTripCard
/-- ITS FALSE NEIGHBOUR. Refute it at one input. -/
def LawS4382CRoundTripToldWrongFalsely : Prop := Claim7.holds Ybaf.pinned (.plain (OpenSpec.ofChange lawS4382CRoundTripWrong)) lawS4382CRoundTripCard
end Rows
end Go.Proofs.YbulkclsoFmt
