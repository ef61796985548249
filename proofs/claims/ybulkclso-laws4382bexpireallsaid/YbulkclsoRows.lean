/-
  No cell of these rows narrows 'for every input' (looked for: loops, veiled, ifaces, maps, wideKeys, modest, calm, conditions, laid).
  DERIVED. THE GIVEN ROWS OF THIS SEAT. 3 by the template 'for every input the law returns true; each argument reads behind the call as it read before'; 0 by the template 'total and deterministic' (their statements: YbulkclsoTotals.lean).
  GIVEN WITH THE SEED: the statements are not yours to turn. If you find one false, say at which input.
  Laid BY PROGRAM, IN A SANDBOX (cutbox-rows.mjs): the forced cells as the released guide's own fill.sh prints them over the translation b5be1a74c3b2ce1f… (all of the seat's roots in one cut). By AI agents, Wed Nov 11 2026. No macro, syntax, notation, axiom, sorry.
-/
import Derived.Test.YbulkclsoChecked
import GoSem.Claim
import GoSem.ClaimJoined
import GoSem.ClaimMapViews
import Derived.JoinedTies
import Derived.KernelRfl
namespace Go.Proofs.Ybulkclso
/- THE CELL 'sum', in the pinned program and in every row, IS THE sha256 OF THE DUMP (.gsa) THAT YbulkclsoProg.lean LOADS. Nothing in Lean hashes anything: it is a label: what it is worth is what the hold of that sum in a sandbox is worth. -/
noncomputable def Yba.pinned : Pinned := { name := "ybulkclso", sum := "b5be1a74c3b2ce1f7442996c1eb9fc352cf5fbb125773893898ffc247a0ae478", checked := Yba.checked }
namespace Rows
def none {H : Type} : Left H := { results := [], args := [] }

/-- 'node.LawS4382ALost': WHATEVER THE INPUT: true; the input reads as it did. -/
def lawS4382ALostSpec : ChangeSpec := { name := "lawS4382ALost", fn := fun _ => fun
  | [d1, d2, d3, d4, d5, d6, d7] => { results := [.lit (.bool true)], args := [d1, d2, d3, d4, d5, d6, d7] }
  | _ => none }
def lawS4382ALostRow : OpenClaim := { program := "ybulkclso", sum := "b5be1a74c3b2ce1f7442996c1eb9fc352cf5fbb125773893898ffc247a0ae478", func := "example.com/ringward/ringward/internal/node.LawS4382ALost", spec := "lawS4382ALost", plainKeys := false, apart := false }
def LawS4382ALostSaid : Prop := lawS4382ALostRow.holds Yba.pinned (OpenSpec.ofChange lawS4382ALostSpec)

/-- ITS FALSE NEIGHBOUR: 'it returns false'. Refute it at one input. -/
def lawS4382ALostWrong : ChangeSpec := { name := "lawS4382ALost", fn := fun _ => fun
  | [d1, d2, d3, d4, d5, d6, d7] => { results := [.lit (.bool false)], args := [d1, d2, d3, d4, d5, d6, d7] }
  | _ => none }
def LawS4382ALostWrongFalsely : Prop := lawS4382ALostRow.holds Yba.pinned (OpenSpec.ofChange lawS4382ALostWrong)

/-- 'overlay.LawS4382BExpireAll': WHATEVER THE INPUT: true; the input reads as it did. -/
def lawS4382BExpireAllSpec : ChangeSpec := { name := "lawS4382BExpireAll", fn := fun _ => fun
  | [d1, d2] => { results := [.lit (.bool true)], args := [d1, d2] }
  | _ => none }
def lawS4382BExpireAllRow : OpenClaim := { program := "ybulkclso", sum := "b5be1a74c3b2ce1f7442996c1eb9fc352cf5fbb125773893898ffc247a0ae478", func := "example.com/ringward/ringward/internal/overlay.LawS4382BExpireAll", spec := "lawS4382BExpireAll", unfollowed := true, recurses := true, plainKeys := false, apart := false }
def LawS4382BExpireAllSaid : Prop := lawS4382BExpireAllRow.holds Yba.pinned (OpenSpec.ofChange lawS4382BExpireAllSpec)

/-- ITS FALSE NEIGHBOUR: 'it returns false'. Refute it at one input. -/
def lawS4382BExpireAllWrong : ChangeSpec := { name := "lawS4382BExpireAll", fn := fun _ => fun
  | [d1, d2] => { results := [.lit (.bool false)], args := [d1, d2] }
  | _ => none }
def LawS4382BExpireAllWrongFalsely : Prop := lawS4382BExpireAllRow.holds Yba.pinned (OpenSpec.ofChange lawS4382BExpireAllWrong)

/-- 'overlay.LawS4382CScript': WHATEVER THE INPUT: true; the input reads as it did. -/
def lawS4382CScriptSpec : ChangeSpec := { name := "lawS4382CScript", fn := fun _ => fun
  | [d1, d2, d3] => { results := [.lit (.bool true)], args := [d1, d2, d3] }
  | _ => none }
def lawS4382CScriptRow : OpenClaim := { program := "ybulkclso", sum := "b5be1a74c3b2ce1f7442996c1eb9fc352cf5fbb125773893898ffc247a0ae478", func := "example.com/ringward/ringward/internal/overlay.LawS4382CScript", spec := "lawS4382CScript", unfollowed := true, recurses := true, plainKeys := false, apart := false }
def LawS4382CScriptSaid : Prop := lawS4382CScriptRow.holds Yba.pinned (OpenSpec.ofChange lawS4382CScriptSpec)

/-- ITS FALSE NEIGHBOUR: 'it returns false'. Refute it at one input. -/
def lawS4382CScriptWrong : ChangeSpec := { name := "lawS4382CScript", fn := fun _ => fun
  | [d1, d2, d3] => { results := [.lit (.bool false)], args := [d1, d2, d3] }
  | _ => none }
def LawS4382CScriptWrongFalsely : Prop := lawS4382CScriptRow.holds Yba.pinned (OpenSpec.ofChange lawS4382CScriptWrong)

end Rows
end Go.Proofs.Ybulkclso
