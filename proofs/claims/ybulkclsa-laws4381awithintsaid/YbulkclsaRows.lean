/-
  No cell of these rows narrows 'for every input' (looked for: loops, veiled, ifaces, maps, wideKeys, modest, calm, conditions, laid).
  DERIVED. THE GIVEN ROWS OF THIS SEAT. 2 by the template 'for every input the law returns true; each argument reads behind the call as it read before'; 0 by the template 'total and deterministic' (their statements: YbulkclsaTotals.lean).
  GIVEN WITH THE SEED: the statements are not yours to turn. If you find one false, say at which input.
  Laid BY PROGRAM, IN A SANDBOX (cutbox-rows.mjs): the forced cells as the released guide's own fill.sh prints them over the translation 7a348de78e8a94c8… (all of the seat's roots in one cut). By AI agents, Wed Nov 11 2026. No macro, syntax, notation, axiom, sorry.
-/
import Derived.Test.YbulkclsaChecked
import GoSem.Claim
import GoSem.ClaimJoined
import GoSem.ClaimMapViews
import Derived.JoinedTies
import Derived.KernelRfl
namespace Go.Proofs.Ybulkclsa
/- THE CELL 'sum', in the pinned program and in every row, IS THE sha256 OF THE DUMP (.gsa) THAT YbulkclsaProg.lean LOADS. Nothing in Lean hashes anything: it is a label: what it is worth is what the hold of that sum in a sandbox is worth. -/
noncomputable def Yba.pinned : Pinned := { name := "ybulkclsa", sum := "7a348de78e8a94c848f875dd4aa35bff6dbcf8d04e444487a6bd74fa50a7f7a7", checked := Yba.checked }
namespace Rows
def none {H : Type} : Left H := { results := [], args := [] }

/-- 'tuplewise.LawS4381AModel': WHATEVER THE INPUT: true; the input reads as it did. -/
def lawS4381AModelSpec : ChangeSpec := { name := "lawS4381AModel", fn := fun _ => fun
  | [d1, d2] => { results := [.lit (.bool true)], args := [d1, d2] }
  | _ => none }
def lawS4381AModelRow : OpenClaim := { program := "ybulkclsa", sum := "7a348de78e8a94c848f875dd4aa35bff6dbcf8d04e444487a6bd74fa50a7f7a7", func := "example.com/tuplewise/tuplewise.LawS4381AModel", spec := "lawS4381AModel", inPlace := ["internal/bytealg.abigen_runtime_cmpstring"], apart := false }
def LawS4381AModelSaid : Prop := lawS4381AModelRow.holds Yba.pinned (OpenSpec.ofChange lawS4381AModelSpec)

/-- ITS FALSE NEIGHBOUR: 'it returns false'. Refute it at one input. -/
def lawS4381AModelWrong : ChangeSpec := { name := "lawS4381AModel", fn := fun _ => fun
  | [d1, d2] => { results := [.lit (.bool false)], args := [d1, d2] }
  | _ => none }
def LawS4381AModelWrongFalsely : Prop := lawS4381AModelRow.holds Yba.pinned (OpenSpec.ofChange lawS4381AModelWrong)

/-- 'tuplewise.LawS4381AWithInt': WHATEVER THE INPUT: true; the input reads as it did. -/
def lawS4381AWithIntSpec : ChangeSpec := { name := "lawS4381AWithInt", fn := fun _ => fun
  | [d1, d2] => { results := [.lit (.bool true)], args := [d1, d2] }
  | _ => none }
def lawS4381AWithIntRow : OpenClaim := { program := "ybulkclsa", sum := "7a348de78e8a94c848f875dd4aa35bff6dbcf8d04e444487a6bd74fa50a7f7a7", func := "example.com/tuplewise/tuplewise.LawS4381AWithInt", spec := "lawS4381AWithInt", inPlace := ["internal/bytealg.abigen_runtime_cmpstring"], apart := false }
def LawS4381AWithIntSaid : Prop := lawS4381AWithIntRow.holds Yba.pinned (OpenSpec.ofChange lawS4381AWithIntSpec)

/-- ITS FALSE NEIGHBOUR: 'it returns false'. Refute it at one input. -/
def lawS4381AWithIntWrong : ChangeSpec := { name := "lawS4381AWithInt", fn := fun _ => fun
  | [d1, d2] => { results := [.lit (.bool false)], args := [d1, d2] }
  | _ => none }
def LawS4381AWithIntWrongFalsely : Prop := lawS4381AWithIntRow.holds Yba.pinned (OpenSpec.ofChange lawS4381AWithIntWrong)

end Rows
end Go.Proofs.Ybulkclsa
