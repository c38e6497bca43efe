/-
  THE WALK of 'FnSplitArgsRefusesUnclosedQuote' (3), with zzBytes (13).
-/
import Derived.Test.Qxb6001659aQuoD
namespace Go.Proofs.Qxb6001659a.Unc
open Go.RowKit Go.Proofs.Qxb6001659a.Quo

def Any (e : Ending) : Prop := ∃ r, e = .returned (.bool r)

set_option maxHeartbeats 400000 in
theorem bytes_any (a b : ByteArray) (c : Bool) (w : World) (ha : a.size ≤ maxLen) (hb : b.size ≤ maxLen) : Calls Try.prog 13 #[.string a, .string b, .bool c] w fun e w' => Any e ∧ w = w' := by
  unfold maxLen at ha hb
  go_enter Try.func13, Try.ntmps13
  go_wp2
  all_goals
    go_ret
    exact ⟨⟨_, rfl⟩, rfl⟩

/-- The line: the words, a space, the quote, the tail. -/
def lineOf (a b : ByteArray) (q : UInt8) : List UInt8 := a.data.toList ++ [32, q] ++ b.data.toList

theorem bt_list (l : List UInt8) (k : Nat) : bt ⟨l.toArray⟩ k = ((l[k]?.getD 0).toNat : Int) := by
  unfold bt
  split
  · rename_i h
    have h' : k < l.length := h
    rw [List.getElem?_eq_getElem h']
    rfl
  · rename_i h
    have h' : ¬ k < l.length := h
    rw [List.getElem?_eq_none (by omega)]
    rfl

theorem bt_data (s : ByteArray) (k : Nat) : bt s k = ((s.data.toList[k]?.getD 0).toNat : Int) := bt_list s.data.toList k

theorem size_list (l : List UInt8) : (⟨l.toArray⟩ : ByteArray).size = l.length := rfl
theorem len_data (s : ByteArray) : s.data.toList.length = s.size := by simp

/-- A tail without its quote is never closed. -/
theorem reads_dq (s : ByteArray) (h : NoByte s 34) : Reads s 34 (dqStep s) (fun _ => True) (-1) :=
  ⟨trivial, fun _ _ _ _ => trivial, fun _ => rfl, fun k _ hk hq => absurd hq (h k hk)⟩
theorem reads_sq (s : ByteArray) (h : NoByte s 39) : Reads s 39 (sqStep s) (fun _ => True) (-1) :=
  ⟨trivial, fun _ _ _ _ => trivial, fun _ => rfl, fun k _ hk hq => absurd hq (h k hk)⟩

theorem extract_list (l : List UInt8) (p : Nat) : (⟨l.toArray⟩ : ByteArray).extract p l.length = ⟨(l.drop p).toArray⟩ := by
  have : ((⟨l.toArray⟩ : ByteArray).extract p l.length).data.toList = l.drop p := by
    simp
    rw [List.take_of_length_le (by simp)]
  apply ByteArray.ext
  rw [← Array.toList_inj, this]

theorem refused (a b : ByteArray) (q : UInt8) (ha : NoQuote a) (hq : q = 34 ∨ q = 39) (hb : NoByte b q.toNat) (hs : (lineOf a b q).length ≤ 999999) :
    Refused ⟨(lineOf a b q).toArray⟩ (a.size + 1) (-1) := by
  have hsz : a.data.toList.length = a.size := len_data a
  have hlen : (lineOf a b q).length = a.size + 2 + b.size := by simp [lineOf]; omega
  have hat : ∀ j, j < a.size → bt ⟨(lineOf a b q).toArray⟩ j = bt a j := by
    intro j hj
    rw [bt_list, bt_data]
    simp only [lineOf, List.append_assoc]
    rw [List.getElem?_append_left (by omega)]
  have hq1 : bt ⟨(lineOf a b q).toArray⟩ (a.size + 1) = (q.toNat : Int) := by
    rw [bt_list]
    simp only [lineOf, List.append_assoc]
    rw [List.getElem?_append_right (by omega), hsz]
    simp
  have hsp : bt ⟨(lineOf a b q).toArray⟩ a.size = 32 := by
    rw [bt_list]
    simp only [lineOf, List.append_assoc]
    rw [List.getElem?_append_right (by omega), hsz]
    simp
  have hdrop : (lineOf a b q).drop (a.size + 1 + 1) = b.data.toList := by
    simp only [lineOf]
    rw [List.drop_append_of_le_length (by simp), List.drop_eq_nil_of_le (by simp), List.nil_append]
  have hext : (⟨(lineOf a b q).toArray⟩ : ByteArray).extract (a.size + 1 + 1) (⟨(lineOf a b q).toArray⟩ : ByteArray).size = b := by
    rw [size_list (lineOf a b q), extract_list, hdrop]
  refine ⟨by rw [size_list (lineOf a b q)]; omega, ?_, ?_, .inl rfl⟩
  · intro j hj
    by_cases e : j = a.size
    · subst e; rw [hsp]; decide
    · rw [hat j (by omega)]
      exact ⟨ha.1 j (by omega), ha.2 j (by omega)⟩
  · rw [hext, hq1]
    rcases hq with rfl | rfl
    · exact .inl ⟨rfl, fun B bk W hB hbd => dq_any b B bk 1000000 _ (-1) W (by omega) (by omega) hB hbd (reads_dq b hb)⟩
    · exact .inr ⟨rfl, fun B bk W hB hbd => sq_any b B bk 1000000 _ (-1) W (by omega) (by omega) hB hbd (reads_sq b hb)⟩

set_option maxHeartbeats 1000000 in
theorem law_any (a b : ByteArray) (c : Bool) (w : World) (ha : a.size ≤ maxLen) (hb : b.size ≤ maxLen) :
    Calls Try.prog 3 #[.string a, .string b, .bool c] w fun e w' => e = .returned (.bool true) ∧ Below w.heap.size w w' := by
  have ha' := ha
  have hb' := hb
  unfold maxLen at ha hb
  obtain ⟨i0, hi, hz0, hz1, hz2⟩ := info_parts Bld.info5
  go_enter Try.func3, Try.ntmps3
  go_wp2_with fail
  refine (bytes_any a b c _ ha' hb').mono ?_
  rintro e w1 ⟨⟨r, rfl⟩, rfl⟩
  cases r
  · go_wp2
    go_ret
    exact ⟨rfl, Below.refl _ _⟩
  by_cases ha6 : 65536 < a.size
  · go_wp2
    go_ret
    exact ⟨rfl, Below.refl _ _⟩
  have ha7 : decide ((65536 : Int) < (a.size : Int)) = false := by simp; omega
  by_cases hb6 : 65536 < b.size
  · go_wp2
    go_ret
    exact ⟨rfl, Below.refl _ _⟩
  have q27 : ∀ (w : World) (a : Option Addr) (n c n' c' : Nat), (binOp .eql 27 (.slice a n c) (.slice none n' c')).run Try.prog w = .ok (.bool a.isNone) w := fun w a n c n' c' => Lib.run_eql_slice_nil w _ _ a n c n' c' Try.underlying27
  cases c
  all_goals
    go_wp2_with fail
    refine (hasq_any a _ ha').mono ?_
    rintro e w1 ⟨⟨r, rfl, hr⟩, rfl⟩
    cases r
    rotate_left
    · go_wp2
      go_ret
      exact ⟨rfl, Below.refl _ _⟩
    have hqa := hr rfl
    clear hr
    go_wp2_with fail
    refine (has_any b _ _ hb').mono ?_
    rintro e w1 ⟨⟨r, rfl, hr⟩, rfl⟩
    cases r
    rotate_left
    · go_wp2
      go_ret
      exact ⟨rfl, Below.refl _ _⟩
    have hqb := hr rfl
    clear hr
    go_wp2_with fail
    refine (app_any w.heap.size _ [] a _ (Line.empty w) (by simp) (by simp) (by omega)).mono ?_
    rintro e w1 ⟨v1, rfl, hL1, hB1⟩
    have hs1 := hB1.size
    simp at hs1
    rw [List.nil_append] at hL1
    have hl1 : a.data.toList.length = a.size := len_data a
    have hL1' : Hid (Line w.heap.size v1 a.data.toList w1) := hL1
    clear hL1
    go_wp2_with (at_builtin; refine wpList_append_own _ rfl _ _ 25 rfl w.heap.size 5 i0 (.int .u8 0) 1 1 Try.underlying25 hi hz0 hz1 hz2 rfl (by decide) _ _ _ rfl (World.ownsRow.alloc hL1'.out _) ⟨w1.heap.size, 0, none⟩ 2 2 _ rfl rfl (two_new _ _ _ _) (by intro u hu; simp at hu; rcases hu with rfl | rfl <;> rfl) (by unfold maxLen; omega) (by omega) (by simp; omega) ?_; intro v2 w2 hown2 hgrow2 _)
    obtain ⟨q, hq, hL2, hqb2⟩ : ∃ q : UInt8, (q = 34 ∨ q = 39) ∧ Line w.heap.size v2 (a.data.toList ++ [32, q]) w2 ∧ NoByte b q.toNat := by
      first
        | exact ⟨34, .inl rfl, Line.of hown2 rfl (by simp), hqb⟩
        | exact ⟨39, .inr rfl, Line.of hown2 rfl (by simp), hqb⟩
    have hB2 : Below w.heap.size w w2 := (((Below.refl _ _).alloc (Nat.le_refl _) _).trans hB1 |>.alloc (by omega) _).grown hgrow2 (by simp; omega) (fun q hq => (World.ownsRow.lt hL1'.out q hq).1)
    have hl2 : (a.data.toList ++ [32, q]).length = a.size + 2 := by simp
    have hs2 := hB2.size
    have HH : Hid (Line w.heap.size v2 (a.data.toList ++ [32, q]) w2 ∧ (q = 34 ∨ q = 39)) := ⟨hL2, hq⟩
    clear hown2 hgrow2 hL1' hB1 hL2 hq
    go_wp2_with fail
    refine (app_any w.heap.size _ _ b _ HH.out.1 hs2 (by omega) (by omega)).mono ?_
    rintro e w3 ⟨v3, rfl, hL3, hB3⟩
    obtain ⟨g3, n3, cap3, rfl, hconv0⟩ := hL3.conv (by simp)
    obtain ⟨sx, hsx⟩ : ∃ sx : ByteArray, sx = ⟨(lineOf a b q).toArray⟩ := ⟨_, rfl⟩
    have hconv : (convert 25 9 (.slice (some ⟨g3, 0, none⟩) n3 cap3)).run Try.prog w3 = .ok (.string sx) w3 := by rw [hsx]; exact hconv0
    clear hconv0
    have hll : (lineOf a b q).length ≤ 999999 := by simp [lineOf]; omega
    have hBB : Below w.heap.size w w3 := hB2.trans hB3
    have hs3 := hBB.size
    have hR := refused a b q hqa HH.out.2 hqb2 hll
    have hsz : sx.size ≤ 999999 := by rw [hsx]; exact hll
    rw [← hsx] at hR
    clear hB2 hB3 hL3 HH hl2 hsx hll
    go_wp2_with fail
    refine (split_refuses _ _ _ _ hsz hR).mono ?_
    rintro e w4 ⟨rfl, hB4⟩
    go_wp2
    go_ret
    exact ⟨rfl, hBB.trans (hB4.mono hs3)⟩
end Go.Proofs.Qxb6001659a.Unc
