/-
  THE WALK of 'FnSplitArgsRefusesTextGluedToClosingQuote' (4).
-/
import Derived.Test.Qxb6001659aGluC
namespace Go.Proofs.Qxb6001659a.Glu
open Go.RowKit Go.Proofs.Qxb6001659a.Quo Go.Proofs.Qxb6001659a.Unc

theorem not_last {s : ByteArray} {cs : List (List UInt8)} (h : LastIs s s.size cs) (hl : 0 < s.size → bt s (s.size - 1) ≠ 92) : cs.getLast? ≠ some [92] := by
  intro e
  obtain ⟨h1, h2⟩ := h e
  exact hl h1 h2

set_option maxHeartbeats 2000000 in
theorem law_any (a b : ByteArray) (st c : Int) (r : ByteArray) (w : World) (ha : a.size ≤ maxLen) (hb : b.size ≤ maxLen) (hr : r.size ≤ maxLen) (h0 : 0 ≤ st) (h1 : st ≤ 255) (hc0 : 0 ≤ c) (hc1 : c ≤ 255) :
    Calls Try.prog 4 #[.string a, .string b, .int .u8 st, .int .u8 c, .string r] w fun e w' => e = .returned (.bool true) ∧ Below w.heap.size w w' := by
  obtain ⟨cb, hcb⟩ : ∃ cb : UInt8, c = (cb.toNat : Int) := ⟨UInt8.ofNat c.toNat, by simp; omega⟩
  subst hcb
  have ha' := ha
  have hb' := hb
  have hr' := hr
  unfold maxLen at ha hb hr
  go_enter Try.func4, Try.ntmps4
  go_wp2_with fail
  refine (zbytes_any a b st _ r _ ha' hb' hr').mono ?_
  rintro e w1 ⟨⟨rb, rfl⟩, rfl⟩
  cases rb
  · go_wp2
    go_ret
    exact ⟨rfl, Below.refl _ _⟩
  by_cases ha6 : 65536 < a.size
  · go_wp2
    go_ret
    exact ⟨rfl, Below.refl _ _⟩
  have ha7 : decide ((65536 : Int) < (a.size : Int)) = false := decide_eq_false (by omega)
  by_cases hb6 : 65536 < b.size
  · go_wp2
    go_ret
    exact ⟨rfl, Below.refl _ _⟩
  have hb7 : decide ((65536 : Int) < (b.size : Int)) = false := decide_eq_false (by omega)
  by_cases hr6 : 65536 < r.size
  · go_wp2
    go_ret
    exact ⟨rfl, Below.refl _ _⟩
  have hr7 : decide ((65536 : Int) < (r.size : Int)) = false := decide_eq_false (by omega)
  have q27 : ∀ (w : World) (a : Option Addr) (n c n' c' : Nat), (binOp .eql 27 (.slice a n c) (.slice none n' c')).run Try.prog w = .ok (.bool a.isNone) w := fun w a n c n' c' => Lib.run_eql_slice_nil w _ _ a n c n' c' Try.underlying27
  go_wp2_with fail
  refine (zspace_any _ _).mono ?_
  rintro e w1 ⟨rfl, rfl⟩
  cases hsp : spB (cb.toNat : Int)
  rotate_left
  · go_wp2
    go_ret
    exact ⟨rfl, Below.refl _ _⟩
  go_wp2_with fail
  refine (hasq_any a _ ha').mono ?_
  rintro e w1 ⟨⟨rq, rfl, hrq⟩, rfl⟩
  cases rq
  rotate_left
  · go_wp2
    go_ret
    exact ⟨rfl, Below.refl _ _⟩
  have hqa := hrq rfl
  clear hrq
  -- the walk behind the guards, whatever the style
  by_cases h3 : st % 4 = 3
  · go_wp2_with fail
    refine (last_any b _ hb').mono ?_
    rintro e w1 ⟨⟨rl, rfl, hrl⟩, rfl⟩
    cases rl
    rotate_left
    · go_wp2
      go_ret
      exact ⟨rfl, Below.refl _ _⟩
    have hlast := hrl rfl
    clear hrl
    have HA : Hid (st % 4 = 3 → 0 < b.size → bt b (b.size - 1) ≠ 92) := fun _ => hlast
    clear hlast
    go_wp2_with fail
    refine (app_any w.heap.size _ [] a _ (Line.empty w) (by simp) (by simp) (by omega)).mono ?_
    rintro e w1 ⟨v1, rfl, hL1, hB1⟩
    have hs1 := hB1.size
    simp at hs1
    rw [List.nil_append] at hL1
    have hl1 : a.data.toList.length ≤ 65536 := by rw [len_data a]; omega
    have HL1 : Hid (Line w.heap.size v1 a.data.toList w1) := hL1
    have hBa : Below w.heap.size w w1 := ((Below.refl _ _).alloc (Nat.le_refl _) _).trans hB1
    clear hL1 hB1
    go_wp2_with (at_builtin; refine app_line _ rfl _ _ rfl w.heap.size _ _ rfl (HL1.out.alloc _) ⟨w1.heap.size, 0, none⟩ 1 1 [32] rfl rfl (cell_one_new _ _ _) (by omega) (by simp; omega) ?_; intro v2 w2 hL2 hB2)
    have hBb : Below w.heap.size w w2 := (hBa.alloc (by omega) _).trans hB2
    have hs2 := hBb.size
    have hl2 : (a.data.toList ++ [32]).length ≤ 65537 := by rw [List.length_append]; simp only [List.length_cons, List.length_nil]; omega
    refine (style_any w.heap.size v2 _ b st _ hL2 hs2 (by omega) (by omega) h0 h1).mono ?_
    rintro e w3 ⟨v3, q, cs, rfl, hcl, hL3, hB3, hq⟩
    have hBc : Below w.heap.size w w3 := hBb.trans hB3
    have hs3 := hBc.size
    have hfl : cs.flatten.length ≤ 262144 := by
      rcases hq with ⟨_, hd⟩ | ⟨_, _, hd, _⟩
      · have := chunks_len DChunk dchunk_len cs hd; omega
      · have := chunks_len SChunk schunk_len cs hd; omega
    have hl3 : ((a.data.toList ++ [32]) ++ q :: cs.flatten ++ [q]).length ≤ 327683 := by
      simp only [List.length_append, List.length_cons, List.length_nil] at hl2 ⊢
      omega
    have HL3 : Hid (Line w.heap.size v3 ((a.data.toList ++ [32]) ++ q :: cs.flatten ++ [q]) w3) := hL3
    have HQ : Hid ((q = 34 ∧ ∀ d ∈ cs, DChunk d) ∨ (q = 39 ∧ (∀ d ∈ cs, SChunk d) ∧ cs.getLast? ≠ some [92])) := by
      rcases hq with ⟨h1, hd⟩ | ⟨h1, h2, hd, hl⟩
      · exact .inl ⟨h1, hd⟩
      · exact .inr ⟨h1, hd, not_last hl (HA.out h2)⟩
    clear hL2 hB2 hL3 hB3 hq HL1 hBa hBb
    go_wp2_with (at_builtin; refine app_line _ rfl _ _ rfl w.heap.size _ _ rfl (HL3.out.alloc _) ⟨w3.heap.size, 0, none⟩ 1 1 [cb] rfl rfl (cell_one_new _ _ _) (by omega) (by simp; omega) ?_; intro v4 w4 hL4 hB4)
    have hBd : Below w.heap.size w w4 := (hBc.alloc (by omega) _).trans hB4
    have hs4 := hBd.size
    have hl4 : (((a.data.toList ++ [32]) ++ q :: cs.flatten ++ [q]) ++ [cb]).length ≤ 327684 := by
      rw [List.length_append]; simp only [List.length_cons, List.length_nil]; omega
    refine (app_any w.heap.size _ _ r _ hL4 hs4 (by omega) (by omega)).mono ?_
    rintro e w5 ⟨v5, rfl, hL5, hB5⟩
    obtain ⟨g5, n5, cap5, rfl, hconv0⟩ := hL5.conv (by simp)
    obtain ⟨sx, hsx⟩ : ∃ sx : ByteArray, sx = ⟨(lineG a.data.toList q cs.flatten cb r.data.toList).toArray⟩ := ⟨_, rfl⟩
    have hconv : (convert 25 9 (.slice (some ⟨g5, 0, none⟩) n5 cap5)).run Try.prog w5 = .ok (.string sx) w5 := by rw [hsx]; exact hconv0
    have hll : (lineG a.data.toList q cs.flatten cb r.data.toList).length ≤ 999999 := by
      unfold lineG
      rw [List.length_append, len_data r]
      omega
    have hBB : Below w.heap.size w w5 := hBd.trans hB5
    have hs5 := hBB.size
    have hR := refusedG a q cs cb r.data.toList hqa hsp hll HQ.out
    have hsz : sx.size ≤ 999999 := by rw [hsx]; exact hll
    rw [← hsx] at hR
    clear hconv0 hBd hB5 hL5 hL4 hB4 HL3 HQ hsx hll hl4 hl3 hl2 hl1 hfl hBc hqa HA
    go_wp2_with fail
    refine (split_refuses _ _ _ _ hsz hR).mono ?_
    rintro e w6 ⟨rfl, hB6⟩
    go_wp2
    go_ret
    exact ⟨rfl, hBB.trans (hB6.mono hs5)⟩
  · have h3' : (st % 4 == 3) = false := by simpa using h3
    have HA : Hid (st % 4 = 3 → 0 < b.size → bt b (b.size - 1) ≠ 92) := fun h => absurd h h3
    go_wp2_with fail
    refine (app_any w.heap.size _ [] a _ (Line.empty w) (by simp) (by simp) (by omega)).mono ?_
    rintro e w1 ⟨v1, rfl, hL1, hB1⟩
    have hs1 := hB1.size
    simp at hs1
    rw [List.nil_append] at hL1
    have hl1 : a.data.toList.length ≤ 65536 := by rw [len_data a]; omega
    have HL1 : Hid (Line w.heap.size v1 a.data.toList w1) := hL1
    have hBa : Below w.heap.size w w1 := ((Below.refl _ _).alloc (Nat.le_refl _) _).trans hB1
    clear hL1 hB1
    go_wp2_with (at_builtin; refine app_line _ rfl _ _ rfl w.heap.size _ _ rfl (HL1.out.alloc _) ⟨w1.heap.size, 0, none⟩ 1 1 [32] rfl rfl (cell_one_new _ _ _) (by omega) (by simp; omega) ?_; intro v2 w2 hL2 hB2)
    have hBb : Below w.heap.size w w2 := (hBa.alloc (by omega) _).trans hB2
    have hs2 := hBb.size
    have hl2 : (a.data.toList ++ [32]).length ≤ 65537 := by rw [List.length_append]; simp only [List.length_cons, List.length_nil]; omega
    refine (style_any w.heap.size v2 _ b st _ hL2 hs2 (by omega) (by omega) h0 h1).mono ?_
    rintro e w3 ⟨v3, q, cs, rfl, hcl, hL3, hB3, hq⟩
    have hBc : Below w.heap.size w w3 := hBb.trans hB3
    have hs3 := hBc.size
    have hfl : cs.flatten.length ≤ 262144 := by
      rcases hq with ⟨_, hd⟩ | ⟨_, _, hd, _⟩
      · have := chunks_len DChunk dchunk_len cs hd; omega
      · have := chunks_len SChunk schunk_len cs hd; omega
    have hl3 : ((a.data.toList ++ [32]) ++ q :: cs.flatten ++ [q]).length ≤ 327683 := by
      simp only [List.length_append, List.length_cons, List.length_nil] at hl2 ⊢
      omega
    have HL3 : Hid (Line w.heap.size v3 ((a.data.toList ++ [32]) ++ q :: cs.flatten ++ [q]) w3) := hL3
    have HQ : Hid ((q = 34 ∧ ∀ d ∈ cs, DChunk d) ∨ (q = 39 ∧ (∀ d ∈ cs, SChunk d) ∧ cs.getLast? ≠ some [92])) := by
      rcases hq with ⟨h1, hd⟩ | ⟨h1, h2, hd, hl⟩
      · exact .inl ⟨h1, hd⟩
      · exact .inr ⟨h1, hd, not_last hl (HA.out h2)⟩
    clear hL2 hB2 hL3 hB3 hq HL1 hBa hBb
    go_wp2_with (at_builtin; refine app_line _ rfl _ _ rfl w.heap.size _ _ rfl (HL3.out.alloc _) ⟨w3.heap.size, 0, none⟩ 1 1 [cb] rfl rfl (cell_one_new _ _ _) (by omega) (by simp; omega) ?_; intro v4 w4 hL4 hB4)
    have hBd : Below w.heap.size w w4 := (hBc.alloc (by omega) _).trans hB4
    have hs4 := hBd.size
    have hl4 : (((a.data.toList ++ [32]) ++ q :: cs.flatten ++ [q]) ++ [cb]).length ≤ 327684 := by
      rw [List.length_append]; simp only [List.length_cons, List.length_nil]; omega
    refine (app_any w.heap.size _ _ r _ hL4 hs4 (by omega) (by omega)).mono ?_
    rintro e w5 ⟨v5, rfl, hL5, hB5⟩
    obtain ⟨g5, n5, cap5, rfl, hconv0⟩ := hL5.conv (by simp)
    obtain ⟨sx, hsx⟩ : ∃ sx : ByteArray, sx = ⟨(lineG a.data.toList q cs.flatten cb r.data.toList).toArray⟩ := ⟨_, rfl⟩
    have hconv : (convert 25 9 (.slice (some ⟨g5, 0, none⟩) n5 cap5)).run Try.prog w5 = .ok (.string sx) w5 := by rw [hsx]; exact hconv0
    have hll : (lineG a.data.toList q cs.flatten cb r.data.toList).length ≤ 999999 := by
      unfold lineG
      rw [List.length_append, len_data r]
      omega
    have hBB : Below w.heap.size w w5 := hBd.trans hB5
    have hs5 := hBB.size
    have hR := refusedG a q cs cb r.data.toList hqa hsp hll HQ.out
    have hsz : sx.size ≤ 999999 := by rw [hsx]; exact hll
    rw [← hsx] at hR
    clear hconv0 hBd hB5 hL5 hL4 hB4 HL3 HQ hsx hll hl4 hl3 hl2 hl1 hfl hBc hqa HA
    go_wp2_with fail
    refine (split_refuses _ _ _ _ hsz hR).mono ?_
    rintro e w6 ⟨rfl, hB6⟩
    go_wp2
    go_ret
    exact ⟨rfl, hBB.trans (hB6.mono hs5)⟩
end Go.Proofs.Qxb6001659a.Glu
