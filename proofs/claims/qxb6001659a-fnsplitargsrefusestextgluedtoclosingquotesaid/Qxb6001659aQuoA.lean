/-
  THE QUOTE READERS: isSpace (55), isHex (70), hexValue (71), doubleQuoted (56), singleQuoted (57).
-/
import Derived.Test.Qxb6001659aBuilder
import Derived.Deep.RegionWith
import Derived.Deep.DrawnRows
namespace Go.Proofs.Qxb6001659a.Quo
open Go.RowKit

/-- White space, as isSpace has it. -/
def spB (c : Int) : Bool := decide (c = 32 ∨ c = 9 ∨ c = 10 ∨ c = 13 ∨ c = 11 ∨ c = 12)
/-- A hexadecimal digit, as isHex has it. -/
def hexB (c : Int) : Bool := decide ((48 ≤ c ∧ c ≤ 57) ∨ (97 ≤ c ∧ c ≤ 102) ∨ (65 ≤ c ∧ c ≤ 70))

theorem ret_bool {a b : Bool} (h : a = b) : Ending.returned (.bool a) = .returned (.bool b) := by rw [h]

set_option maxHeartbeats 400000 in
theorem space_any (c : Int) (w : World) : Calls Try.prog 55 #[.int .u8 c] w fun e w' => e = .returned (.bool (spB c)) ∧ w = w' := by
  go_enter Try.func55, Try.ntmps55
  go_wp2
  all_goals
    go_ret
    refine ⟨ret_bool ?_, rfl⟩
    simp only [spB]
    first
      | (simp; done)
      | (simp_all; done)
      | (rw [Bool.eq_iff_iff]; simp only [Bool.or_eq_true, decide_eq_true_eq, beq_iff_eq]; omega)

set_option maxHeartbeats 400000 in
theorem hex_any (c : Int) (w : World) : Calls Try.prog 70 #[.int .u8 c] w fun e w' => e = .returned (.bool (hexB c)) ∧ w = w' := by
  go_enter Try.func70, Try.ntmps70
  go_wp2
  all_goals
    go_ret
    refine ⟨ret_bool ?_, rfl⟩
    simp only [hexB]
    first
      | (simp; done)
      | (simp; omega)
      | (simp_all; done)
      | (rw [Bool.eq_iff_iff]; simp only [Bool.or_eq_true, decide_eq_true_eq]; omega)

set_option maxHeartbeats 400000 in
theorem hexval_any (c : Int) (w : World) : Calls Try.prog 71 #[.int .u8 c] w fun e w' => (∃ n, e = .returned (.int .u8 n)) ∧ w = w' := by
  go_enter Try.func71, Try.ntmps71
  go_wp2
  all_goals
    go_ret
    exact ⟨⟨_, rfl⟩, rfl⟩


/-- The byte at k, as a number; 0 beyond the end. -/
def bt (s : ByteArray) (k : Nat) : Int := if h : k < s.size then ((s[k]'h).toNat : Int) else 0
theorem bt_eq (s : ByteArray) (k : Nat) (h : k < s.size) : ((s[k]'h).toNat : Int) = bt s k := by simp [bt, h]

/-- An index of a string that is in range, as a run. -/
theorem run_index_at (s : ByteArray) (j : Nat) (i : Int) (hi : i = (j : Int)) (h : j < s.size) (W : World) :
    (Instr.index 9 (.string s) (.int .i64 i)).run Try.prog W = .ok (.int .u8 ((s[j]'h).toNat : Int)) W := by
  subst hi
  rw [run_index_string _ _ _ _ _ Try.underlying9]
  simp [h]

/-- How many bytes doubleQuoted takes at k. -/
def dqStep (s : ByteArray) (k : Nat) : Nat :=
  if bt s k ≠ 92 ∨ k + 1 = s.size then 1 else if bt s (k + 1) = 120 ∧ k + 3 < s.size ∧ hexB (bt s (k + 2)) = true ∧ hexB (bt s (k + 3)) = true then 4 else 2

/-- How many bytes singleQuoted takes at k. -/
def sqStep (s : ByteArray) (k : Nat) : Nat :=
  if bt s k = 92 ∧ k + 1 < s.size ∧ bt s (k + 1) = 39 then 2 else 1

/-- A builder in block b that holds at most n bytes. -/
def Bd (B b n : Nat) (w : World) : Prop := ∃ bs, Lib.IsBuilderF 74 5 B b bs w ∧ bs.length ≤ n

theorem Bd.le {B b n m : Nat} {w : World} (h : Bd B b n w) (hm : n ≤ m) : Bd B b m w := by
  obtain ⟨bs, h1, h2⟩ := h
  exact ⟨bs, h1, by omega⟩

/-- WriteByte, weakly. -/
theorem write_bd (B b n : Nat) (c : Int) (w : World) (h : Bd B b n w) (hn : n < 1000000000) (hBw : B ≤ w.heap.size) :
    Calls Try.prog 58 #[.pointer (some ⟨b, 0, none⟩), .int .u8 c] w fun e w' => e = .returned .nilIface ∧ Bd B b (n + 1) w' ∧ Below B w w' := by
  obtain ⟨bs, hb, hl⟩ := h
  refine (Bld.write_any B b bs c w hb (by omega) hBw).mono ?_
  rintro e w' ⟨rfl, h1, h2, _⟩
  exact ⟨rfl, ⟨_, .inr h1, by simp; omega⟩, h2⟩

/-- What a quote reader is told: a set of places that its rounds keep to, and what it answers. -/
structure Reads (s : ByteArray) (q : Int) (step : Nat → Nat) (I : Nat → Prop) (r : Int) : Prop where
  start : I 0
  next : ∀ k, I k → k < s.size → bt s k ≠ q → I (k + step k)
  off : I s.size → r = -1
  at_ : ∀ k, I k → k < s.size → bt s k = q → r = k + 1

set_option maxHeartbeats 1000000 in
theorem sq_any (s : ByteArray) (B b n : Nat) (I : Nat → Prop) (r : Int) (w : World) (hs : s.size ≤ 1000000) (hn : n ≤ 1000000) (hBw : B ≤ w.heap.size) (hb : Bd B b n w) (H : Reads s 39 (sqStep s) I r) :
    Calls Try.prog 57 #[.string s, .pointer (some ⟨b, 0, none⟩)] w fun e w' => e = .returned (.int .i64 r) ∧ Below B w w' := by
  go_enter Try.func57, Try.ntmps57
  go_wp2
  go_loopw [5] (fun i wr => ∃ k : Nat, k ≤ s.size ∧ i = .int .i64 k ∧ I k ∧ Bd B b (n + k) wr ∧ Below B w wr) (fun i _ => s.size - (intOf i).toNat)
  case atStart => exact ⟨0, Nat.zero_le _, rfl, H.start, hb, Below.refl _ _⟩
  case round =>
    obtain ⟨k, hk, rfl, hI, hbr, hBr⟩ := hrel
    have hBs : B ≤ wr.heap.size := Nat.le_trans hBw hBr.size
    by_cases hlt : k < s.size
    · have e0 := bt_eq s k hlt
      by_cases hq : bt s k = 39
      · have hr := H.at_ k hI hlt hq
        subst hr
        have hq' : ((s[k]'hlt).toNat : Int) = 39 := by rw [e0]; exact hq
        clear e0 hq
        go_wp2
        go_ret
        exact ⟨rfl, hBr⟩
      · have hq' : (((s[k]'hlt).toNat : Int) == 39) = false := by rw [e0]; simpa using hq
        have hnx := H.next k hI hlt hq
        by_cases hst : bt s k = 92 ∧ k + 1 < s.size ∧ bt s (k + 1) = 39
        · obtain ⟨h92, hl1, h39⟩ := hst
          have hS : sqStep s k = 2 := by simp [sqStep, h92, hl1, h39]
          rw [hS] at hnx
          have h92' : ((s[k]'hlt).toNat : Int) = 92 := by rw [e0]; exact h92
          have h39' : ((s[k + 1]'hl1).toNat : Int) = 39 := by rw [bt_eq]; exact h39
          clear e0 hq hS h92 h39
          go_wp2_with (go_at_call 58; refine (write_bd B b (n + k) _ _ hbr (by omega) hBs).mono ?_; rintro e w1 ⟨rfl, hb1, hB1⟩)
          go_roundw
          case rel => exact ⟨k + 2, by omega, by go_num, hnx, hb1.le (by omega), hBr.trans hB1⟩
          case measure => simp [intOf]; omega
        · have hS : sqStep s k = 1 := by simp only [sqStep, if_neg hst]
          rw [hS] at hnx
          by_cases h92 : bt s k = 92
          · have h92' : ((s[k]'hlt).toNat : Int) = 92 := by rw [e0]; exact h92
            by_cases hl1 : k + 1 < s.size
            · have h39 : ¬ bt s (k + 1) = 39 := fun h => hst ⟨h92, hl1, h⟩
              have h39' : (((s[k + 1]'hl1).toNat : Int) == 39) = false := by rw [bt_eq]; simpa using h39
              clear e0 hq hS h92 h39 hst
              go_wp2_with (go_at_call 58; refine (write_bd B b (n + k) _ _ hbr (by omega) hBs).mono ?_; rintro e w1 ⟨rfl, hb1, hB1⟩)
              go_roundw
              case rel => exact ⟨k + 1, by omega, by go_num, hnx, hb1, hBr.trans hB1⟩
              case measure => simp [intOf]; omega
            · clear e0 hq hS h92 hst
              go_wp2_with (go_at_call 58; refine (write_bd B b (n + k) _ _ hbr (by omega) hBs).mono ?_; rintro e w1 ⟨rfl, hb1, hB1⟩)
              go_roundw
              case rel => exact ⟨k + 1, by omega, by go_num, hnx, hb1, hBr.trans hB1⟩
              case measure => simp [intOf]; omega
          · have h92' : (((s[k]'hlt).toNat : Int) == 92) = false := by rw [e0]; simpa using h92
            clear e0 hq hS h92 hst
            go_wp2_with (go_at_call 58; refine (write_bd B b (n + k) _ _ hbr (by omega) hBs).mono ?_; rintro e w1 ⟨rfl, hb1, hB1⟩)
            go_roundw
            case rel => exact ⟨k + 1, by omega, by go_num, hnx, hb1, hBr.trans hB1⟩
            case measure => simp [intOf]; omega
    · have hkl : k = s.size := by omega
      have hr := H.off (by rw [← hkl]; exact hI)
      subst hr
      clear hkl
      go_wp2
      go_ret
      exact ⟨rfl, hBr⟩

end Go.Proofs.Qxb6001659a.Quo
