/-
  THE LEAVES: cmp.Compare at three kinds, strings.Compare, (*Value).sign, Int, zzs4381amodel.
-/
import Derived.Test.YbulkclsaRows
import Derived.WalkKit
import Derived.ProofKit
import Derived.OpenShut
import Derived.ShutString
import Derived.ChangeOld
import Derived.Below
import Derived.Lib.Strings
import Derived.Lib.Slices
import Derived.Lib.Small
import Derived.Lib.Walk
import Derived.Lib.Bytealg
import Derived.WalkLawsBesides
import Derived.Outline
namespace Go.Proofs.Ybulkclsa
open Go.RowKit

set_option maxHeartbeats 1000000 in
theorem cmp_int (x y : Int) (w : World) :
    Calls Yba.prog 12 #[.int .i64 x, .int .i64 y] w fun e w' => e = .returned (.int .i64 (Lib.compareInt x y)) ∧ w' = w := by
  go_enter Yba.func12, Yba.ntmps12
  go_wp2
  all_goals (go_ret; refine ⟨?_, rfl⟩; unfold Lib.compareInt; (repeat' split) <;> first | rfl | (exfalso; omega))

set_option maxHeartbeats 1000000 in
theorem cmp_int64 (x y : Int) (w : World) :
    Calls Yba.prog 14 #[.int .i64 x, .int .i64 y] w fun e w' => e = .returned (.int .i64 (Lib.compareInt x y)) ∧ w' = w := by
  go_enter Yba.func14, Yba.ntmps14
  go_wp2
  all_goals (go_ret; refine ⟨?_, rfl⟩; unfold Lib.compareInt; (repeat' split) <;> first | rfl | (exfalso; omega))

set_option maxHeartbeats 1000000 in
theorem cmp_u64 (x y : Int) (w : World) :
    Calls Yba.prog 18 #[.int .u64 x, .int .u64 y] w fun e w' => e = .returned (.int .i64 (Lib.compareInt x y)) ∧ w' = w := by
  go_enter Yba.func18, Yba.ntmps18
  go_wp2
  all_goals (go_ret; refine ⟨?_, rfl⟩; unfold Lib.compareInt; (repeat' split) <;> first | rfl | (exfalso; omega))

set_option maxHeartbeats 1000000 in
set_option maxRecDepth 100000 in
theorem compareString (a b : ByteArray) (w : World) :
    Calls Yba.prog 20 #[.string a, .string b] w fun e w' => e = .returned (.int .i64 (Lib.compareBytes a.data.toList b.data.toList)) ∧ w' = w := by
  go_enter Yba.func20, Yba.ntmps20
  go_wp2
  rw [run_callFunc_extern Yba.func22 (by kernel_rfl) (by kernel_rfl) (by kernel_rfl) (e := Extern.BytealgCompare.compare) (by kernel_rfl), Lib.run_compareString]
  simp only [Result.andThen]
  rw [Oper.upon_value]
  go_wp2
  go_ret
  exact ⟨rfl, rfl⟩

set_option maxHeartbeats 1000000 in
theorem strings_Compare (a b : ByteArray) (w : World) :
    Calls Yba.prog 15 #[.string a, .string b] w fun e w' => e = .returned (.int .i64 (Lib.compareBytes a.data.toList b.data.toList)) ∧ w' = w := by
  go_enter Yba.func15, Yba.ntmps15
  go_wp2_with (go_at_call 20; refine (compareString _ _ _).mono ?_; rintro e w' ⟨rfl, rfl⟩)
  go_ret
  exact ⟨rfl, rfl⟩

/-- A Value in memory at block b, offset 0: its five cells. -/
structure IsVal (w : World) (b : Nat) (k : Int) (neg : Bool) (n : Int) (s : ByteArray) : Prop where
  c0 : w.cell? ⟨b, 0, none⟩ = some (.int .u8 k)
  c1 : w.cell? ⟨b, 1, none⟩ = some (.bool neg)
  c2 : w.cell? ⟨b, 2, none⟩ = some (.int .i64 n)
  c3 : w.cell? ⟨b, 3, none⟩ = some (.string s)

def signOf (k : Int) (neg : Bool) (n : Int) : Int := if k = 1 then Lib.compareInt n 0 else if neg then -1 else 1

set_option maxHeartbeats 1000000 in
theorem sign_any (w : World) (b : Nat) (k : Int) (neg : Bool) (n : Int) (s : ByteArray) (h : IsVal w b k neg n s) :
    Calls Yba.prog 11 #[.pointer (some ⟨b, 0, none⟩)] w fun e w' => e = .returned (.int .i64 (signOf k neg n)) ∧ w' = w := by
  obtain ⟨c0, c1, c2, c3⟩ := h
  unfold signOf
  by_cases hk : k = 1
  · have hb : (k == 1) = true := by simp [hk]
    rw [if_pos hk]
    clear hk
    go_enter Yba.func11, Yba.ntmps11
    go_wp2_with (go_at_call 14; refine (cmp_int64 _ _ _).mono ?_; rintro e w' ⟨rfl, rfl⟩)
    go_ret
    exact ⟨rfl, rfl⟩
  · have hb : (k == 1) = false := by simp [hk]
    rw [if_neg hk]
    clear hk
    cases neg
    all_goals
      go_enter Yba.func11, Yba.ntmps11
      go_wp2
      go_ret
      exact ⟨rfl, rfl⟩

set_option maxHeartbeats 1000000 in
theorem int_any (w : World) (i : Int) :
    Calls Yba.prog 8 #[.int .i64 i] w fun e w' => e = .returned (.agg #[.int .u8 1, .bool false, .int .i64 i, .string ⟨#[]⟩, .pointer none]) ∧ Below w.heap.size w w' := by
  go_enter Yba.func8, Yba.ntmps8
  go_wp2
  refine bodyPost_ret (v := .agg #[.int .u8 1, .bool false, .int .i64 i, .string ⟨#[]⟩, .pointer none]) (by simp [results, Yba.results8, go_sem]) rfl ⟨rfl, ?_⟩
  exact (Below.refl _ _).alloc (Nat.le_refl _) _
end Go.Proofs.Ybulkclsa
