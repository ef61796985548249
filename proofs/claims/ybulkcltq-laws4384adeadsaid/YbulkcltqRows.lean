/-
  No cell of these rows narrows 'for every input' (looked for: loops, veiled, ifaces, maps, wideKeys, modest, calm, conditions, laid).
  DERIVED. THE GIVEN ROWS OF THIS SEAT. 2 by the template 'for every input the law returns true; each argument reads behind the call as it read before'; 0 by the template 'total and deterministic' (their statements: YbulkcltqTotals.lean).
  GIVEN WITH THE SEED: the statements are not yours to turn. If you find one false, say at which input.
  Laid BY PROGRAM, IN A SANDBOX (cutbox-rows.mjs): the forced cells as the released guide's own fill.sh prints them over the translation 0cb9327cb2970dee… (all of the seat's roots in one cut). By AI agents, Wed Nov 11 2026. No macro, syntax, notation, axiom, sorry.
-/
import Derived.Test.YbulkcltqChecked
import GoSem.Claim
import GoSem.ClaimJoined
import GoSem.ClaimMapViews
import Derived.JoinedTies
import Derived.KernelRfl
namespace Go.Proofs.Ybulkcltq
/- THE CELL 'sum', in the pinned program and in every row, IS THE sha256 OF THE DUMP (.gsa) THAT YbulkcltqProg.lean LOADS. Nothing in Lean hashes anything: it is a label: what it is worth is what the hold of that sum in a sandbox is worth. -/
noncomputable def Yba.pinned : Pinned := { name := "ybulkcltq", sum := "0cb9327cb2970dee8df831964b9f43d70960966aaacc943f5780068140fb4888", checked := Yba.checked }
namespace Rows
def none {H : Type} : Left H := { results := [], args := [] }

/-- 'transport.LawS4384ADead': WHATEVER THE INPUT: true; the input reads as it did. -/
def lawS4384ADeadSpec : ChangeSpec := { name := "lawS4384ADead", fn := fun _ => fun
  | [d1, d2] => { results := [.lit (.bool true)], args := [d1, d2] }
  | _ => none }
def lawS4384ADeadRow : OpenClaim := { program := "ybulkcltq", sum := "0cb9327cb2970dee8df831964b9f43d70960966aaacc943f5780068140fb4888", func := "example.com/quorumwright/quorumwright/internal/transport.LawS4384ADead", spec := "lawS4384ADead", apart := false }
def LawS4384ADeadSaid : Prop := lawS4384ADeadRow.holds Yba.pinned (OpenSpec.ofChange lawS4384ADeadSpec)

/-- ITS FALSE NEIGHBOUR: 'it returns false'. Refute it at one input. -/
def lawS4384ADeadWrong : ChangeSpec := { name := "lawS4384ADead", fn := fun _ => fun
  | [d1, d2] => { results := [.lit (.bool false)], args := [d1, d2] }
  | _ => none }
def LawS4384ADeadWrongFalsely : Prop := lawS4384ADeadRow.holds Yba.pinned (OpenSpec.ofChange lawS4384ADeadWrong)

/-- 'transport.LawS4384AClose': WHATEVER THE INPUT: true; the input reads as it did. -/
def lawS4384ACloseSpec : ChangeSpec := { name := "lawS4384AClose", fn := fun _ => fun
  | [d1, d2] => { results := [.lit (.bool true)], args := [d1, d2] }
  | _ => none }
def lawS4384ACloseRow : OpenClaim := { program := "ybulkcltq", sum := "0cb9327cb2970dee8df831964b9f43d70960966aaacc943f5780068140fb4888", func := "example.com/quorumwright/quorumwright/internal/transport.LawS4384AClose", spec := "lawS4384AClose", apart := false }
def LawS4384ACloseSaid : Prop := lawS4384ACloseRow.holds Yba.pinned (OpenSpec.ofChange lawS4384ACloseSpec)

/-- ITS FALSE NEIGHBOUR: 'it returns false'. Refute it at one input. -/
def lawS4384ACloseWrong : ChangeSpec := { name := "lawS4384AClose", fn := fun _ => fun
  | [d1, d2] => { results := [.lit (.bool false)], args := [d1, d2] }
  | _ => none }
def LawS4384ACloseWrongFalsely : Prop := lawS4384ACloseRow.holds Yba.pinned (OpenSpec.ofChange lawS4384ACloseWrong)

end Rows
end Go.Proofs.Ybulkcltq
