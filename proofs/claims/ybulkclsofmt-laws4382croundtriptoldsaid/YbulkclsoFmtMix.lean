import Derived.Test.YbulkclsoFmtCards
import Derived.Test.YbulkclsoFmtFei
import Derived.WalkKit
import Derived.ProofKit
import Derived.OpenShut
import Derived.ShutString
import Derived.ChangeOld
import Derived.Below
import Derived.Outline
import Derived.WalkLawsBesides
import Derived.Deep.QuietTactic
import Derived.BigQuiet
import Derived.RegionTactic
import Derived.Deep.LoopGhost
import Derived.Lib.SmallJoins
import Derived.Laws.BitsAllLaws
import Derived.Laws.Bits64
namespace Go.Proofs.YbulkclsoFmt
open Go.RowKit

def mixA (z : Nat) : Nat := (z ^^^ z / 1073741824) * 13787848793156543929 % 18446744073709551616
def mixB (z : Nat) : Nat := (z ^^^ z / 134217728) * 10723151780598845931 % 18446744073709551616
def mixC (z : Nat) : Nat := z ^^^ z / 2147483648
def mixN (z : Nat) : Nat := mixC (mixB (mixA z))

theorem mixA_lt (z : Nat) : mixA z < 18446744073709551616 := Nat.mod_lt _ (by decide)
theorem mixB_lt (z : Nat) : mixB z < 18446744073709551616 := Nat.mod_lt _ (by decide)
theorem mixC_lt {z : Nat} (h : z < 18446744073709551616) : mixC z < 18446744073709551616 :=
  Nat.xor_lt_two_pow (n := 64) h (Nat.lt_of_le_of_lt (Nat.div_le_self _ _) h)
theorem mixN_lt (z : Nat) : mixN z < 18446744073709551616 := mixC_lt (mixB_lt _)

theorem stepA (z : Nat) (h : z < 18446744073709551616) : IntKind.u64.wrap (bits BinOp.xor IntKind.u64 (z : Int) ((z : Int) / 1073741824) * 13787848793156543929) = (mixA z : Int) := mixStep_u64 z 1073741824 13787848793156543929 h
theorem stepB (z : Nat) (h : z < 18446744073709551616) : IntKind.u64.wrap (bits BinOp.xor IntKind.u64 (z : Int) ((z : Int) / 134217728) * 10723151780598845931) = (mixB z : Int) := mixStep_u64 z 134217728 10723151780598845931 h
theorem stepC (z : Nat) (h : z < 18446744073709551616) : bits BinOp.xor IntKind.u64 (z : Int) ((z : Int) / 2147483648) = (mixC z : Int) := xorShift_u64 z 2147483648 h

set_option maxHeartbeats 1000000 in
theorem mix_any (z : Nat) (h : z < 18446744073709551616) (w : World) :
    Calls Ybaf.prog 13 #[.int .u64 z] w fun e w' => e = .returned (.int .u64 (mixN z)) ∧ w' = w := by
  have hA := stepA z h
  have hB := stepB (mixA z) (mixA_lt z)
  have hC := stepC (mixB (mixA z)) (mixB_lt _)
  have HN : Hid (mixN z = mixC (mixB (mixA z))) := rfl
  go_enter Ybaf.func13, Ybaf.ntmps13
  go_wp2_with fail
  go_ret
  refine ⟨?_, rfl⟩
  rw [HN.out]
  rfl
end Go.Proofs.YbulkclsoFmt
