/-
  THE WALKS of 'FnApplyGeographicAndMobileAgree': strings.HasPrefix at "39" (20, 25), Longest (24), Covers (19), Apply (12).
-/
import Derived.Test.Qxb6601574aSetA
namespace Go.Proofs.Qxb6601574a.App
open Go.RowKit Go.Maps

/-- The text opens with "39". -/
def preB (s : ByteArray) : Bool := decide (2 ≤ s.size) && (s.extract 0 2).toList == [51, 57]

set_option maxHeartbeats 400000 in
theorem pre25_any (s : ByteArray) (w : World) (hs : s.size ≤ maxLen) : Calls Try.prog 25 #[.string s, .string ⟨#[51, 57]⟩] w fun e w' => e = .returned (.bool (preB s)) ∧ w = w' := by
  unfold maxLen at hs
  by_cases h2 : 2 ≤ s.size
  · have hp : preB s = ((s.extract 0 2).toList == [51, 57]) := by simp [preB, h2]
    rw [hp]
    clear hp
    go_enter Try.func25, Try.ntmps25
    go_wp2
    go_ret
    exact ⟨rfl, rfl⟩
  · have hp : preB s = false := by simp [preB, h2]
    go_enter Try.func25, Try.ntmps25
    go_wp2
    go_ret
    exact ⟨rfl, rfl⟩

set_option maxHeartbeats 400000 in
theorem pre_any (s : ByteArray) (w : World) (hs : s.size ≤ maxLen) : Calls Try.prog 20 #[.string s, .string ⟨#[51, 57]⟩] w fun e w' => e = .returned (.bool (preB s)) ∧ w = w' := by
  go_enter Try.func20, Try.ntmps20
  go_wp2_with (go_at_call 25; refine (pre25_any s _ hs).mono ?_; rintro e w1 ⟨rfl, rfl⟩)
  go_ret
  exact ⟨rfl, rfl⟩

/-- Does some opening of s of 1 to k bytes lie in the set? -/
def covK (look : ByteArray → Bool) (s : ByteArray) : Nat → Bool
  | 0 => false
  | k + 1 => look (s.extract 0 (k + 1)) || covK look s k
def cov (look : ByteArray → Bool) (s : ByteArray) : Bool := covK look s (min s.size 15)

set_option maxHeartbeats 1000000 in
theorem longest_any (m : Value) (look : ByteArray → Bool) (s : ByteArray) (w : World) (hL : Looks m look w) (hs : s.size ≤ maxLen) :
    Calls Try.prog 24 #[m, .string s] w fun e w' => e = .returned (.tuple #[.agg #[], .bool (cov look s)]) ∧ Below w.heap.size w w' := by
  unfold maxLen at hs
  obtain ⟨n0, hn0⟩ : ∃ n0, n0 = min s.size 15 := ⟨_, rfl⟩
  have hcov : cov look s = covK look s n0 := by rw [cov, hn0]
  rw [hcov]
  clear hcov
  have hn1 : n0 ≤ s.size := by omega
  have hn2 : n0 ≤ 15 := by omega
  by_cases h15 : s.size ≤ 15
  · have e0 : n0 = s.size := by omega
    subst e0
    clear hn0
    go_enter Try.func24, Try.ntmps24
    go_wp2
    go_loopw [6] (fun i wr => ∃ k : Nat, k ≤ s.size ∧ i = .int .i64 k ∧ Hid (covK look s k = covK look s s.size) ∧ Below w.heap.size w wr ∧ w.heap.size < wr.heap.size) (fun i _ => (intOf i).toNat)
    case atStart => exact ⟨s.size, Nat.le_refl _, rfl, rfl, (Below.refl _ _).alloc (Nat.le_refl _) _, by simp⟩
    case round =>
      obtain ⟨k, hk, rfl, HC, hB, hz⟩ := hrel
      have hks : k ≤ s.size := by omega
      by_cases h0 : k = 0
      · subst h0
        have E1 : Hid (covK look s s.size = false) := by
          show _ = _
          rw [← HC.out]; rfl
        clear HC
        go_wp2
        refine bodyPost_ret (v := .tuple #[.agg #[], .bool false]) (by simp [results, Try.results24, go_sem]) rfl ⟨by rw [E1.out], ?_⟩
        exact hB.alloc hB.size _
      · have hpos : (0 : Int) < (k : Int) := by omega
        have hk' : (k : Int) ≤ (s.size : Int) := by omega
        obtain ⟨k', rfl⟩ : ∃ k', k = k' + 1 := ⟨k - 1, by omega⟩
        have hlk := hL wr hB (s.extract 0 (k' + 1)) (by simp; unfold maxLen; omega)
        have hst : covK look s (k' + 1) = (look (s.extract 0 (k' + 1)) || covK look s k') := rfl
        cases hx : look (s.extract 0 (k' + 1))
        · have HC' : Hid (covK look s k' = covK look s s.size) := by
            show _ = _
            rw [← HC.out, hst, hx]
            rfl
          rw [hx] at hlk
          clear HC hst hx
          go_wp2
          go_roundw
          case rel => exact ⟨k', by omega, by go_num, HC', hB.alloc hB.size _, by simp; omega⟩
          case measure => simp [intOf]
        · have E1 : Hid (covK look s s.size = true) := by
            show _ = _
            rw [← HC.out, hst, hx]; rfl
          rw [hx] at hlk
          clear HC hst hx
          go_wp2
          refine bodyPost_ret (v := .tuple #[.agg #[], .bool true]) (by simp [results, Try.results24, go_sem]) rfl ⟨by rw [E1.out], ?_⟩
          exact hB.alloc hB.size _
  · have e0 : n0 = 15 := by omega
    subst e0
    clear hn0
    go_enter Try.func24, Try.ntmps24
    go_wp2
    go_loopw [6] (fun i wr => ∃ k : Nat, k ≤ 15 ∧ i = .int .i64 k ∧ Hid (covK look s k = covK look s 15) ∧ Below w.heap.size w wr ∧ w.heap.size < wr.heap.size) (fun i _ => (intOf i).toNat)
    case atStart => exact ⟨15, Nat.le_refl _, rfl, rfl, (Below.refl _ _).alloc (Nat.le_refl _) _, by simp⟩
    case round =>
      obtain ⟨k, hk, rfl, HC, hB, hz⟩ := hrel
      have hks : k ≤ s.size := by omega
      by_cases h0 : k = 0
      · subst h0
        have E1 : Hid (covK look s 15 = false) := by
          show _ = _
          rw [← HC.out]; rfl
        clear HC
        go_wp2
        refine bodyPost_ret (v := .tuple #[.agg #[], .bool false]) (by simp [results, Try.results24, go_sem]) rfl ⟨by rw [E1.out], ?_⟩
        exact hB.alloc hB.size _
      · have hpos : (0 : Int) < (k : Int) := by omega
        have hk' : (k : Int) ≤ (s.size : Int) := by omega
        obtain ⟨k', rfl⟩ : ∃ k', k = k' + 1 := ⟨k - 1, by omega⟩
        have hlk := hL wr hB (s.extract 0 (k' + 1)) (by simp; unfold maxLen; omega)
        have hst : covK look s (k' + 1) = (look (s.extract 0 (k' + 1)) || covK look s k') := rfl
        cases hx : look (s.extract 0 (k' + 1))
        · have HC' : Hid (covK look s k' = covK look s 15) := by
            show _ = _
            rw [← HC.out, hst, hx]
            rfl
          rw [hx] at hlk
          clear HC hst hx
          go_wp2
          go_roundw
          case rel => exact ⟨k', by omega, by go_num, HC', hB.alloc hB.size _, by simp; omega⟩
          case measure => simp [intOf]
        · have E1 : Hid (covK look s 15 = true) := by
            show _ = _
            rw [← HC.out, hst, hx]; rfl
          rw [hx] at hlk
          clear HC hst hx
          go_wp2
          refine bodyPost_ret (v := .tuple #[.agg #[], .bool true]) (by simp [results, Try.results24, go_sem]) rfl ⟨by rw [E1.out], ?_⟩
          exact hB.alloc hB.size _

set_option maxHeartbeats 400000 in
theorem covers_any (m : Value) (look : ByteArray → Bool) (s : ByteArray) (w : World) (hL : Looks m look w) (hs : s.size ≤ maxLen) :
    Calls Try.prog 19 #[m, .string s] w fun e w' => e = .returned (.bool (cov look s)) ∧ Below w.heap.size w w' := by
  go_enter Try.func19, Try.ntmps19
  go_wp2_with fail
  refine (longest_any m look s _ hL hs).mono ?_
  rintro e w1 ⟨rfl, hB⟩
  go_wp2
  go_ret
  exact ⟨rfl, hB.alloc hB.size _⟩

def geo : ByteArray := ⟨#[99, 108, 105, 45, 105, 116, 97, 108, 105, 97, 110, 45, 103, 101, 111, 103, 114, 97, 112, 104, 105, 99]⟩
def nonPortable : ByteArray := ⟨#[99, 97, 108, 108, 101, 100, 45, 110, 111, 110, 45, 112, 111, 114, 116, 97, 98, 108, 101]⟩
def areaOnly : ByteArray := ⟨#[99, 108, 105, 45, 97, 114, 101, 97, 45, 99, 111, 100, 101, 45, 111, 110, 108, 121]⟩
def international : ByteArray := ⟨#[99, 97, 108, 108, 101, 100, 45, 105, 110, 116, 101, 114, 110, 97, 116, 105, 111, 110, 97, 108]⟩

/-- What Apply answers, by three bools. -/
def verdict (rule : ByteArray) : Bool → Bool → Bool → ByteArray
  | true, _, _ => nonPortable
  | false, true, _ => rule
  | false, false, true => areaOnly
  | false, false, false => international

set_option maxHeartbeats 1000000 in
theorem apply_any (m1 m2 : Value) (look1 look2 : ByteArray → Bool) (rule cli called : ByteArray) (w : World) (h1 : Looks m1 look1 w) (h2 : Looks m2 look2 w) (hr : rule = ⟨#[]⟩ ∨ rule = geo) (hcli : cli.size ≤ maxLen) (hcal : called.size ≤ maxLen) :
    Calls Try.prog 12 #[.agg #[m1, m2], .string rule, .string cli, .string called] w fun e w' => e = .returned (.string (verdict rule (cov look1 called) (preB called) (look2 cli))) ∧ Below w.heap.size w w' := by
  have hsz : ∀ o, Below w.heap.size w (w.alloc o) := fun o => (Below.refl _ _).alloc (Nat.le_refl _) _
  rcases hr with rfl | rfl
  · go_enter Try.func12, Try.ntmps12
    go_wp2_with fail
    refine (covers_any m1 look1 called _ (h1.below (hsz _)) hcal).mono ?_
    rintro e w1 ⟨rfl, hB0⟩
    have hB1 : Below w.heap.size w w1 := (hsz _).trans (hB0.mono (by simp))
    have hc1 : w1.cell? ⟨w.heap.size, 1, none⟩ = some m2 := by
      rw [hB0.cell (p := ⟨w.heap.size, 1, none⟩) (by simp)]
      simp
    have hs1 := hB1.size
    clear hB0 h1
    cases c1 : cov look1 called
    rotate_left
    · have C1 : Hid (cov look1 called = true) := c1
      clear c1
      go_wp2
      go_ret
      exact ⟨by rw [C1.out]; rfl, hB1⟩
    have C1 : Hid (cov look1 called = false) := c1
    clear c1
    go_wp2_with fail
    refine (pre_any called _ hcal).mono ?_
    rintro e w2 ⟨rfl, rfl⟩
    cases c2 : preB called
    rotate_left
    · have C2 : Hid (preB called = true) := c2
      clear c2
      go_wp2
      go_ret
      exact ⟨by rw [C1.out, C2.out]; rfl, hB1⟩
    have C2 : Hid (preB called = false) := c2
    clear c2
    have hlk := h2 w1 hB1 cli hcli
    cases c3 : look2 cli
    · have C3 : Hid (look2 cli = false) := c3
      rw [c3] at hlk
      clear c3
      go_wp2
      go_ret
      exact ⟨by rw [C1.out, C2.out, C3.out]; rfl, hB1.alloc hs1 _⟩
    · have C3 : Hid (look2 cli = true) := c3
      rw [c3] at hlk
      clear c3
      go_wp2
      go_ret
      exact ⟨by rw [C1.out, C2.out, C3.out]; rfl, hB1.alloc hs1 _⟩
  · unfold geo
    go_enter Try.func12, Try.ntmps12
    go_wp2_with fail
    refine (covers_any m1 look1 called _ (h1.below (hsz _)) hcal).mono ?_
    rintro e w1 ⟨rfl, hB0⟩
    have hB1 : Below w.heap.size w w1 := (hsz _).trans (hB0.mono (by simp))
    have hc1 : w1.cell? ⟨w.heap.size, 1, none⟩ = some m2 := by
      rw [hB0.cell (p := ⟨w.heap.size, 1, none⟩) (by simp)]
      simp
    have hs1 := hB1.size
    clear hB0 h1
    cases c1 : cov look1 called
    rotate_left
    · have C1 : Hid (cov look1 called = true) := c1
      clear c1
      go_wp2
      go_ret
      exact ⟨by rw [C1.out]; rfl, hB1⟩
    have C1 : Hid (cov look1 called = false) := c1
    clear c1
    go_wp2_with fail
    refine (pre_any called _ hcal).mono ?_
    rintro e w2 ⟨rfl, rfl⟩
    cases c2 : preB called
    rotate_left
    · have C2 : Hid (preB called = true) := c2
      clear c2
      go_wp2
      go_ret
      exact ⟨by rw [C1.out, C2.out]; rfl, hB1⟩
    have C2 : Hid (preB called = false) := c2
    clear c2
    have hlk := h2 w1 hB1 cli hcli
    cases c3 : look2 cli
    · have C3 : Hid (look2 cli = false) := c3
      rw [c3] at hlk
      clear c3
      go_wp2
      go_ret
      exact ⟨by rw [C1.out, C2.out, C3.out]; rfl, hB1.alloc hs1 _⟩
    · have C3 : Hid (look2 cli = true) := c3
      rw [c3] at hlk
      clear c3
      go_wp2
      go_ret
      exact ⟨by rw [C1.out, C2.out, C3.out]; rfl, hB1.alloc hs1 _⟩
end Go.Proofs.Qxb6601574a.App
