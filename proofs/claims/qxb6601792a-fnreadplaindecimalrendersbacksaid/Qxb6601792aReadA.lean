/-
  THE WALKS of 'FnReadPlainDecimalRendersBack': strings.CutPrefix at "-" (13, 14, 15), zzBytes (9), readPlainDecimal (12), ZZreadPlainDecimal (7).
-/
import Derived.Test.Qxb6601792aRows
import Derived.Test.Qxb6601792aPlain
import Derived.WalkKit
import Derived.WalkSpells
import Derived.WalkLawsBesides
import Derived.Lib.Split
import Derived.Deep.QuietTactic
import Derived.BigQuiet
namespace Go.Proofs.Qxb6601792a.Dec
open Go.RowKit

/-- The text opens with a minus, as the Go text tests it. -/
def negB (s : ByteArray) : Bool := (s.extract 0 1).toList == [45]

theorem negB_iff (s : ByteArray) : negB s = true ↔ s.data.toList.take 1 = [45] := by
  unfold negB
  rw [Go.ByteArray.toList_eq, Lib.extract_from_zero]
  simp

theorem ret_bool {a b : Bool} (h : a = b) : Ending.returned (.bool a) = .returned (.bool b) := by rw [h]

set_option maxHeartbeats 400000 in
theorem has_any (s : ByteArray) (w : World) (hs : s.size ≤ maxLen) : Calls Try.prog 15 #[.string s, .string ⟨#[45]⟩] w fun e w' => e = .returned (.bool (negB s)) ∧ w = w' := by
  unfold maxLen at hs
  by_cases h0 : 0 < s.size
  · go_enter Try.func15, Try.ntmps15
    go_wp2
    go_ret
    exact ⟨rfl, rfl⟩
  · have hn : negB s = false := by
      cases h : negB s
      · rfl
      · have := (negB_iff s).1 h
        have hl : s.data.toList.length = s.size := by simp
        have h2 := congrArg List.length this
        rw [List.length_take] at h2
        simp only [List.length_cons, List.length_nil] at h2
        omega
    go_enter Try.func15, Try.ntmps15
    go_wp2
    go_ret
    exact ⟨rfl, rfl⟩

/-- The unsigned text. -/
def UnsignedOf (s : ByteArray) (neg : Bool) (us : ByteArray) : Prop :=
  (neg = true ∧ s.data.toList = 45 :: us.data.toList) ∨ (neg = false ∧ us = s ∧ s.data.toList.take 1 ≠ [45])

def CutPost (s : ByteArray) (e : Ending) : Prop := ∃ us neg, e = .returned (.tuple #[.string us, .bool neg]) ∧ UnsignedOf s neg us

theorem extract_one (s : ByteArray) : (s.extract 1 s.size).data.toList = s.data.toList.drop 1 := by
  simp
  rw [List.take_of_length_le (by simp)]

theorem cut_list {l : List UInt8} (h : l.take 1 = [45]) : l = 45 :: l.drop 1 := by
  cases l with
  | nil => simp at h
  | cons a r => simp at h; simp [h]

set_option maxHeartbeats 400000 in
theorem cut14_any (s : ByteArray) (w : World) (hs : s.size ≤ maxLen) : Calls Try.prog 14 #[.string s, .string ⟨#[45]⟩] w fun e w' => CutPost s e ∧ w = w' := by
  cases hn : negB s
  · have hn' : s.data.toList.take 1 ≠ [45] := fun h => by rw [(negB_iff s).2 h] at hn; cases hn
    go_enter Try.func14, Try.ntmps14
    go_wp2_with (go_at_call 15; refine (has_any s _ hs).mono ?_; rintro e w1 ⟨rfl, rfl⟩)
    go_ret2
    exact ⟨⟨s, false, rfl, .inr ⟨rfl, rfl, hn'⟩⟩, rfl⟩
  · have hn' := (negB_iff s).1 hn
    have hl := cut_list hn'
    have h1 : 1 ≤ s.size := by
      have := congrArg List.length hl
      simp at this
      omega
    have hs' := hs
    unfold maxLen at hs'
    clear hl
    go_enter Try.func14, Try.ntmps14
    go_wp2_with (go_at_call 15; refine (has_any s _ hs).mono ?_; rintro e w1 ⟨rfl, rfl⟩)
    go_ret2
    exact ⟨⟨_, true, rfl, .inl ⟨rfl, by rw [extract_one]; exact cut_list hn'⟩⟩, rfl⟩

set_option maxHeartbeats 400000 in
theorem cut_any (s : ByteArray) (w : World) (hs : s.size ≤ maxLen) : Calls Try.prog 13 #[.string s, .string ⟨#[45]⟩] w fun e w' => CutPost s e ∧ w = w' := by
  go_enter Try.func13, Try.ntmps13
  go_wp2_with (go_at_call 14; refine (cut14_any s _ hs).mono ?_; rintro e w1 ⟨⟨us, neg, rfl, hu⟩, rfl⟩)
  go_ret2
  exact ⟨⟨us, neg, rfl, hu⟩, rfl⟩

def Any (e : Ending) : Prop := ∃ r, e = .returned (.bool r)
set_option maxHeartbeats 400000 in
theorem bytes_any (a : ByteArray) (w : World) (ha : a.size ≤ maxLen) : Calls Try.prog 9 #[.string a] w fun e w' => Any e ∧ w = w' := by
  unfold maxLen at ha
  go_enter Try.func9, Try.ntmps9
  go_wp2
  all_goals
    go_ret
    exact ⟨⟨_, rfl⟩, rfl⟩
end Go.Proofs.Qxb6601792a.Dec
