/-
  No cell of these rows narrows 'for every input' (looked for: loops, veiled, ifaces, maps, wideKeys, modest, calm, conditions, laid).
  DERIVED. THE GIVEN ROWS OF THIS SEAT. 1 by the template 'for every input the law returns true; each argument reads behind the call as it read before'; 0 by the template 'total and deterministic' (their statements: YbulkclsoFmtTotals.lean).
  GIVEN WITH THE SEED: the statements are not yours to turn. If you find one false, say at which input.
  Laid BY PROGRAM, IN A SANDBOX (cutbox-rows.mjs): the forced cells as the released guide's own fill.sh prints them over the translation ff76959efd328e48… (all of the seat's roots in one cut). By AI agents, Wed Nov 11 2026. No macro, syntax, notation, axiom, sorry.
-/
import Derived.Test.YbulkclsoFmtChecked
import GoSem.Claim
import GoSem.ClaimJoined
import GoSem.ClaimMapViews
import Derived.JoinedTies
import Derived.KernelRfl
namespace Go.Proofs.YbulkclsoFmt
/- THE CELL 'sum', in the pinned program and in every row, IS THE sha256 OF THE DUMP (.gsa) THAT YbulkclsoFmtProg.lean LOADS. Nothing in Lean hashes anything: it is a label: what it is worth is what the hold of that sum in a sandbox is worth. -/
noncomputable def Ybaf.pinned : Pinned := { name := "ybulkclsofmt", sum := "ff76959efd328e48a8915ae1c444406b76d2f6b97ab4943faa12e4635174a826", checked := Ybaf.checked }
namespace Rows
def none {H : Type} : Left H := { results := [], args := [] }

/-- 'overlay.LawS4382CRoundTrip': WHATEVER THE INPUT: true; the input reads as it did. -/
def lawS4382CRoundTripSpec : ChangeSpec := { name := "lawS4382CRoundTrip", fn := fun _ => fun
  | [d1, d2, d3] => { results := [.lit (.bool true)], args := [d1, d2, d3] }
  | _ => none }
def lawS4382CRoundTripRow : OpenClaim := { program := "ybulkclsofmt", sum := "ff76959efd328e48a8915ae1c444406b76d2f6b97ab4943faa12e4635174a826", func := "example.com/ringward/ringward/internal/overlay.LawS4382CRoundTrip", spec := "lawS4382CRoundTrip", stops := ["fmt.errorf"], inPlace := ["fmt.errorf"], unfollowed := true, recurses := true, apart := false }
/-- NO THEOREM (fmt's text is open here; it may be false): for the released tool's asking of the row's closed facts alone. THE STATEMENT IS 'LawS4382CRoundTripToldSaid' (YbulkclsoFmtCards.lean). -/
def LawS4382CRoundTripFormAsk : Prop := lawS4382CRoundTripRow.holds Ybaf.pinned (OpenSpec.ofChange lawS4382CRoundTripSpec)

/-- ITS FALSE NEIGHBOUR: 'it returns false'. Refute it at one input. -/
def lawS4382CRoundTripWrong : ChangeSpec := { name := "lawS4382CRoundTrip", fn := fun _ => fun
  | [d1, d2, d3] => { results := [.lit (.bool false)], args := [d1, d2, d3] }
  | _ => none }
def LawS4382CRoundTripWrongFormAsk : Prop := lawS4382CRoundTripRow.holds Ybaf.pinned (OpenSpec.ofChange lawS4382CRoundTripWrong)

end Rows
end Go.Proofs.YbulkclsoFmt
