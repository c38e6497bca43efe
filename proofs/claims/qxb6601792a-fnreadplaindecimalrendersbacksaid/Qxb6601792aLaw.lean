/-
  THE WALK of 'FnReadPlainDecimalRendersBack' (4).
-/
import Derived.Test.Qxb6601792aRend
namespace Go.Proofs.Qxb6601792a.Dec
open Go.RowKit

/-- The text that is written is read back. -/
theorem back (neg : Bool) (u p n : Nat) (hn : p + 1 ≤ n) (hu : u < 10 ^ n) (h19 : n ≤ 19) {e : Ending} (h : FiveAll ⟨(sign neg ++ text u p n).toArray⟩ e) :
    e = .returned (.tuple #[.bool neg, .int .u64 (u : Int), .int .i32 (p : Int), .bool true, .bool true]) := by
  obtain ⟨us, neg', hun, hf⟩ := h
  obtain ⟨r, hr⟩ := text_head u p n hn
  have hd48 : dig u (n - 1) ≠ 45 := by
    intro e
    have := congrArg UInt8.toNat e
    rw [dig_nat] at this
    have h2 : (45 : UInt8).toNat = 45 := rfl
    omega
  have hus : us.data.toList = text u p n ∧ neg' = neg := by
    cases neg
    · rcases hun with ⟨_, h2⟩ | ⟨h1, h2, _⟩
      · have h3 : text u p n = 45 :: us.data.toList := h2
        rw [hr] at h3
        simp at h3
        exact absurd h3.1 hd48
      · subst h2
        exact ⟨rfl, h1⟩
    · rcases hun with ⟨h1, h2⟩ | ⟨_, _, h3⟩
      · have h3 : 45 :: text u p n = 45 :: us.data.toList := h2
        simp at h3
        exact ⟨h3.symm, h1⟩
      · exact absurd rfl h3
  obtain ⟨hus, rfl⟩ := hus
  have hsz : us.size = (text u p n).length := by rw [← hus]; simp
  obtain ⟨pt, hsc, hpl⟩ := scan_whole u p n hn hu
  rw [← hsz, ← hus] at hsc
  rw [← hsz] at hpl
  rcases hf with ⟨_, hbad⟩ | ⟨d, p', u', q, hsc', hd, _, hq, rfl⟩
  · have := hbad _ _ _ hsc
    omega
  · rw [hsc] at hsc'
    simp at hsc'
    obtain ⟨rfl, rfl, rfl⟩ := hsc'
    rw [hq h19, hpl, decide_eq_true (by omega)]

set_option maxHeartbeats 1000000 in
set_option maxRecDepth 100000 in
theorem law_any (s : ByteArray) (w : World) (hs : s.size ≤ maxLen) :
    Calls Try.prog 4 #[.string s] w fun e w' => e = .returned (.bool true) ∧ Below w.heap.size w w' := by
  have hs' := hs
  unfold maxLen at hs
  go_enter Try.func4, Try.ntmps4
  go_wp2_with fail
  refine (bytes_any s _ hs').mono ?_
  rintro e w1 ⟨⟨rb, rfl⟩, rfl⟩
  cases rb
  · go_wp2
    go_ret
    exact ⟨rfl, Below.refl _ _⟩
  by_cases hbig : 1048576 < s.size
  · go_wp2
    go_ret
    exact ⟨rfl, Below.refl _ _⟩
  go_wp2_with fail
  refine (five_any s _ (by omega)).mono ?_
  rintro e w1 ⟨⟨us, neg, _, hf⟩, hB1⟩
  rcases hf with ⟨rfl, _⟩ | ⟨d, p, u, q, _, hd, hst, hq, rfl⟩
  · go_wp2
    go_ret
    exact ⟨rfl, hB1⟩
  by_cases h19 : d ≤ 19
  · have hdec : decide ((d : Int) ≤ 19) = true := decide_eq_true (by omega)
    obtain ⟨hu1, hp0, hp1⟩ := hst.fits h19
    have hqu := hq h19
    obtain ⟨pl, hpl⟩ : ∃ pl : Nat, placesOf us.size p = (pl : Int) := ⟨(placesOf us.size p).toNat, by omega⟩
    rw [hpl] at hp0 hp1 ⊢
    have HQ : Hid (q = (u : Int) ∧ u < 10000000000000000000) := ⟨hqu, by omega⟩
    have hq1 : q < 10000000000000000000 := by omega
    have hq0 : 0 ≤ q := by omega
    have hpp : pl ≤ 18 := by omega
    have hs1 := hB1.size
    clear hst hq hu1 hqu hpl hd
    go_wp2_with fail
    refine (rend_any neg u pl q HQ.out.1 _ HQ.out.2 hpp).mono ?_
    rintro e w2 ⟨⟨n, hn1, hn2, hn3, rfl⟩, hB2⟩
    have hB3 : Below w.heap.size w w2 := hB1.trans (hB2.mono hs1)
    have hs2 := hB3.size
    obtain ⟨t, ht⟩ : ∃ t : ByteArray, t = ⟨(sign neg ++ text u pl n).toArray⟩ := ⟨_, rfl⟩
    have htl : t.size ≤ 1048576 := by
      rw [ht]
      show (sign neg ++ text u pl n).length ≤ 1048576
      rw [List.length_append, text_len]
      have : (sign neg).length ≤ 1 := by cases neg <;> simp [sign]
      split <;> omega
    rw [← ht]
    have HT : Hid (t = ⟨(sign neg ++ text u pl n).toArray⟩) := ht
    have HN : Hid (pl + 1 ≤ n ∧ u < 10 ^ n ∧ n ≤ 19) := ⟨hn1, hn2, hn3⟩
    clear ht hB1 hB2 hn1 hn2 hn3
    go_wp2_with fail
    refine (five_any t _ htl).mono ?_
    rintro e w3 ⟨hf, hB4⟩
    rw [HT.out] at hf
    have he := back neg u pl n HN.out.1 HN.out.2.1 HN.out.2.2 hf
    rw [← HQ.out.1] at he
    subst he
    have hB5 : Below w.heap.size w w3 := hB3.trans (hB4.mono hs2)
    clear hf hB3 hB4 HT HN HQ
    go_wp2
    all_goals
      go_ret
      exact ⟨by simp, hB5⟩
  · have hdec : decide ((d : Int) ≤ 19) = false := decide_eq_false (by omega)
    clear hst hq
    go_wp2
    go_ret
    exact ⟨rfl, hB1⟩
end Go.Proofs.Qxb6601792a.Dec
