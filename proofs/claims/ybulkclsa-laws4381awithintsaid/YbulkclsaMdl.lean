import Derived.Test.YbulkclsaCwi
import Derived.Deep.QuietTactic
import Derived.BigQuiet
namespace Go.Proofs.Ybulkclsa
open Go.RowKit

theorem cb_lss : ∀ (a b : List UInt8), Op.bytesLess a b = decide (Lib.compareBytes a b = -1)
  | [], [] => by simp [Op.bytesLess, Lib.compareBytes]
  | [], _ :: _ => by simp [Op.bytesLess, Lib.compareBytes]
  | _ :: _, [] => by simp [Op.bytesLess, Lib.compareBytes]
  | a :: xs, b :: ys => by
    have ih := cb_lss xs ys
    simp only [Op.bytesLess, Lib.compareBytes, ih]
    by_cases h : a < b
    · simp [h]
    · by_cases h' : b < a
      · have : ¬ a = b := by intro e; subst e; exact h h'
        simp [h, h', this]
      · have : a = b := UInt8.le_antisymm (UInt8.not_lt.1 h') (UInt8.not_lt.1 h)
        subst this
        simp [h]

theorem cb_eq : ∀ (a b : List UInt8), Lib.compareBytes a b = 0 ↔ a = b
  | [], [] => by simp [Lib.compareBytes]
  | [], _ :: _ => by simp [Lib.compareBytes]
  | _ :: _, [] => by simp [Lib.compareBytes]
  | a :: xs, b :: ys => by
    have ih := cb_eq xs ys
    simp only [Lib.compareBytes]
    by_cases h : a < b
    · have : ¬ a = b := by intro e; subst e; exact UInt8.lt_irrefl _ h
      simp [h, this]
    · by_cases h' : b < a
      · have : ¬ a = b := by intro e; subst e; exact h h'
        simp [h, h', this]
      · have : a = b := UInt8.le_antisymm (UInt8.not_lt.1 h') (UInt8.not_lt.1 h)
        subst this
        simp [h, ih]

theorem cb_three : ∀ (a b : List UInt8), Lib.compareBytes a b = -1 ∨ Lib.compareBytes a b = 0 ∨ Lib.compareBytes a b = 1
  | [], [] => by simp [Lib.compareBytes]
  | [], _ :: _ => by simp [Lib.compareBytes]
  | _ :: _, [] => by simp [Lib.compareBytes]
  | a :: xs, b :: ys => by
    have ih := cb_three xs ys
    simp only [Lib.compareBytes]
    split
    · simp
    · split
      · simp
      · exact ih

theorem ci_three (a b : Int) : Lib.compareInt a b = -1 ∨ Lib.compareInt a b = 0 ∨ Lib.compareInt a b = 1 := by
  unfold Lib.compareInt; split; simp; split <;> simp

def mag (e1 : Int) (d1 : List UInt8) (e2 : Int) (d2 : List UInt8) : Int := if e1 = e2 then Lib.compareBytes d1 d2 else Lib.compareInt e1 e2
def mdl (s1 e1 : Int) (d1 : List UInt8) (s2 e2 : Int) (d2 : List UInt8) : Int :=
  if s1 = s2 then (if s1 = 0 then 0 else if s1 < 0 then - mag e1 d1 e2 d2 else mag e1 d1 e2 d2) else Lib.compareInt s1 s2

set_option maxHeartbeats 4000000 in
theorem model_any (s1 e1 s2 e2 : Int) (d1 d2 : ByteArray) (w : World) :
    Calls Yba.prog 6 #[.int .i64 s1, .int .i64 e1, .string d1, .int .i64 s2, .int .i64 e2, .string d2] w
      fun e w' => e = .returned (.int .i64 (mdl s1 e1 d1.data.toList s2 e2 d2.data.toList)) ∧ w' = w := by
  by_cases hs : s1 = s2
  · subst hs
    have h1 : (s1 != s1) = false := by simp
    by_cases h0 : s1 = 0
    · subst h0
      go_enter Yba.func6, Yba.ntmps6
      go_wp2
      go_ret
      exact ⟨rfl, rfl⟩
    · have h0b : (s1 == 0) = false := by simp [h0]
      by_cases he : e1 = e2
      · subst he
        have h2 : (e1 != e1) = false := by simp
        have hT := cb_three d1.data.toList d2.data.toList
        have hL := cb_lss d1.data.toList d2.data.toList
        have hQ := cb_eq d1.data.toList d2.data.toList
        have hM : mdl s1 e1 d1.data.toList s1 e1 d2.data.toList = if s1 < 0 then - Lib.compareBytes d1.data.toList d2.data.toList else Lib.compareBytes d1.data.toList d2.data.toList := by
          simp [mdl, h0, mag]
        rcases hT with h | h | h
        · rw [h] at hL hM
          simp only [decide_true] at hL
          rw [← Lib.toList_data, ← Lib.toList_data] at hL
          have HM : Hid _ := hM
          clear hM hQ h0 h
          by_cases hn : s1 < 0
          all_goals
            go_enter Yba.func6, Yba.ntmps6
            go_wp2
            go_ret
            exact ⟨by rw [HM.out]; simp [hn], rfl⟩
        · have hq := hQ.1 h
          obtain rfl : d1 = d2 := by cases d1; cases d2; simpa using hq
          rw [h] at hL hM
          simp at hL
          rw [← Lib.toList_data] at hL
          have HM : Hid _ := hM
          clear hM hQ h0 h hq
          by_cases hn : s1 < 0
          all_goals
            go_enter Yba.func6, Yba.ntmps6
            go_wp2
            go_ret
            exact ⟨by rw [HM.out]; simp, rfl⟩
        · have hq : ¬ d1.data = d2.data := fun e => by rw [e, (cb_eq d2.data.toList d2.data.toList).2 rfl] at h; simp at h
          rw [h] at hL hM
          simp at hL
          rw [← Lib.toList_data, ← Lib.toList_data] at hL
          have hq' : (d1.toList == d2.toList) = false := by rw [Lib.toList_data, Lib.toList_data]; simpa using hq
          have HM : Hid _ := hM
          clear hM hQ h0 h hq
          by_cases hn : s1 < 0
          all_goals
            go_enter Yba.func6, Yba.ntmps6
            go_wp2
            go_ret
            exact ⟨by rw [HM.out]; simp [hn], rfl⟩
      · have h2 : (e1 != e2) = true := by simpa using he
        by_cases hlt : e1 < e2
        · have hM : mdl s1 e1 d1.data.toList s1 e2 d2.data.toList = if s1 < 0 then 1 else -1 := by simp [mdl, h0, mag, he, Lib.compareInt, hlt]
          have HM : Hid _ := hM
          clear hM he h0
          by_cases hn : s1 < 0
          all_goals
            go_enter Yba.func6, Yba.ntmps6
            go_wp2
            go_ret
            exact ⟨by rw [HM.out]; simp [hn], rfl⟩
        · have hM : mdl s1 e1 d1.data.toList s1 e2 d2.data.toList = if s1 < 0 then -1 else 1 := by
            have : e2 < e1 := by omega
            simp [mdl, h0, mag, he, Lib.compareInt, hlt, this]
          have HM : Hid _ := hM
          clear hM he h0
          by_cases hn : s1 < 0
          all_goals
            go_enter Yba.func6, Yba.ntmps6
            go_wp2
            go_ret
            exact ⟨by rw [HM.out]; simp [hn], rfl⟩
  · have h2 : (s1 != s2) = true := by simpa using hs
    by_cases hlt : s1 < s2
    · have HM : Hid (mdl s1 e1 d1.data.toList s2 e2 d2.data.toList = -1) := by show _ = _; simp [mdl, hs, Lib.compareInt, hlt]
      clear hs
      go_enter Yba.func6, Yba.ntmps6
      go_wp2
      go_ret
      exact ⟨by rw [HM.out]; rfl, rfl⟩
    · have HM : Hid (mdl s1 e1 d1.data.toList s2 e2 d2.data.toList = 1) := by
        have : s2 < s1 := by omega
        show _ = _; simp [mdl, hs, Lib.compareInt, hlt, this]
      clear hs
      go_enter Yba.func6, Yba.ntmps6
      go_wp2
      go_ret
      exact ⟨by rw [HM.out]; rfl, rfl⟩
end Go.Proofs.Ybulkclsa
