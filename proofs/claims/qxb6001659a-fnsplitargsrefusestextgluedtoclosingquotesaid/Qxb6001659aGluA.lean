/-
  THE PLAIN PART of 'FnSplitArgsRefusesTextGluedToClosingQuote': quoted text is a row of chunks, each of which the quote reader takes whole; it ends at the closing quote.
-/
import Derived.Test.Qxb6001659aUncB
namespace Go.Proofs.Qxb6001659a.Glu
open Go.RowKit Go.Proofs.Qxb6001659a.Quo Go.Proofs.Qxb6001659a.Unc

def DChunk (c : List UInt8) : Prop :=
  (∃ x, c = [x] ∧ x ≠ 34 ∧ x ≠ 92) ∨ (∃ e, c = [92, e] ∧ e ≠ 120) ∨ (∃ h1 h2 : UInt8, c = [92, 120, h1, h2] ∧ hexB h1.toNat = true ∧ hexB h2.toNat = true)
def SChunk (c : List UInt8) : Prop := (∃ x, c = [x] ∧ x ≠ 39) ∨ c = [92, 39]

theorem flatten_take_succ (cs : List (List UInt8)) (j : Nat) (h : j < cs.length) : (cs.take (j + 1)).flatten.length = (cs.take j).flatten.length + cs[j].length := by
  rw [List.take_succ_eq_append_getElem h, List.flatten_append, List.length_append]
  simp

/-- The byte at place i of chunk j. -/
theorem at_chunk (cs : List (List UInt8)) (tail : List UInt8) (j : Nat) (h : j < cs.length) (i : Nat) (hi : i < cs[j].length) :
    bt ⟨(cs.flatten ++ tail).toArray⟩ ((cs.take j).flatten.length + i) = ((cs[j][i]'hi).toNat : Int) := by
  rw [bt_list]
  have e : cs.flatten = (cs.take j).flatten ++ (cs[j] ++ (cs.drop (j + 1)).flatten) := by
    conv => lhs; rw [← List.take_append_drop j cs]
    rw [List.flatten_append, List.drop_eq_getElem_cons h, List.flatten_cons]
  rw [e, List.append_assoc, List.getElem?_append_right (by omega), List.append_assoc, List.getElem?_append_left (by omega)]
  simp [hi]

theorem at_tail (cs : List (List UInt8)) (q : UInt8) (tail : List UInt8) : bt ⟨(cs.flatten ++ q :: tail).toArray⟩ cs.flatten.length = (q.toNat : Int) := by
  rw [bt_list, List.getElem?_append_right (by omega)]
  simp

theorem flatten_take_le (cs : List (List UInt8)) (j : Nat) : (cs.take j).flatten.length ≤ cs.flatten.length := by
  conv => rhs; rw [← List.take_append_drop j cs]
  rw [List.flatten_append, List.length_append]
  omega

theorem flatten_lt (cs : List (List UInt8)) (j : Nat) (h : j < cs.length) : (cs.take j).flatten.length + cs[j].length ≤ cs.flatten.length := by
  have := flatten_take_le cs (j + 1)
  rw [flatten_take_succ cs j h] at this
  exact this

theorem ne_int {x y : UInt8} (h : x ≠ y) : (x.toNat : Int) ≠ (y.toNat : Int) := fun e => h (UInt8.toNat_inj.1 (by omega))

theorem reads_dchunks (cs : List (List UInt8)) (tail : List UInt8) (hc : ∀ c ∈ cs, DChunk c) :
    Reads ⟨(cs.flatten ++ 34 :: tail).toArray⟩ 34 (dqStep ⟨(cs.flatten ++ 34 :: tail).toArray⟩) (fun k => ∃ j, j ≤ cs.length ∧ k = (cs.take j).flatten.length) (cs.flatten.length + 1) := by
  have hsz : (⟨(cs.flatten ++ 34 :: tail).toArray⟩ : ByteArray).size = cs.flatten.length + 1 + tail.length := by rw [size_list, List.length_append, List.length_cons]; omega
  have htail := at_tail cs 34 tail
  refine ⟨⟨0, Nat.zero_le _, by simp⟩, ?_, ?_, ?_⟩
  · rintro k ⟨j, hj, rfl⟩ hk hq
    by_cases hjl : j < cs.length
    · refine ⟨j + 1, hjl, ?_⟩
      rw [flatten_take_succ cs j hjl]
      congr 1
      have hle := flatten_lt cs j hjl
      have hat := at_chunk cs (34 :: tail) j hjl
      rcases hc cs[j] (List.getElem_mem hjl) with ⟨x, hx, h34, h92⟩ | ⟨e, hx, h120⟩ | ⟨h1, h2, hx, hh1, hh2⟩
      · have h0 := hat 0 (by rw [hx]; simp)
        simp only [hx, Nat.add_zero, List.getElem_cons_zero] at h0
        rw [dqStep, if_pos (.inl (by rw [h0]; exact ne_int h92)), hx]
        rfl
      · have h0 := hat 0 (by rw [hx]; simp)
        have h1 := hat 1 (by rw [hx]; simp)
        simp only [hx, Nat.add_zero, List.getElem_cons_zero, List.getElem_cons_succ] at h0 h1
        rw [hx] at hle
        simp only [List.length_cons, List.length_nil] at hle
        rw [dqStep, if_neg (by rw [h0, hsz]; intro h; rcases h with h | h; exact h rfl; omega), if_neg (by rw [h1]; intro h; exact ne_int h120 h.1), hx]
        rfl
      · have h0 := hat 0 (by rw [hx]; simp)
        have h1 := hat 1 (by rw [hx]; simp)
        have h2' := hat 2 (by rw [hx]; simp)
        have h3 := hat 3 (by rw [hx]; simp)
        simp only [hx, Nat.add_zero, List.getElem_cons_zero, List.getElem_cons_succ] at h0 h1 h2' h3
        rw [hx] at hle
        simp only [List.length_cons, List.length_nil] at hle
        rw [dqStep, if_neg (by rw [h0, hsz]; intro h; rcases h with h | h; exact h rfl; omega), if_pos (by rw [h1, h2', h3, hsz]; exact ⟨rfl, by omega, hh1, hh2⟩), hx]
        rfl
    · have : j = cs.length := by omega
      subst this
      rw [List.take_length] at hq
      exact absurd htail hq
  · rintro ⟨j, hj, hk⟩
    have := flatten_take_le cs j
    omega
  · rintro k ⟨j, hj, rfl⟩ hk hq
    by_cases hjl : j < cs.length
    · have hat := at_chunk cs (34 :: tail) j hjl
      rcases hc cs[j] (List.getElem_mem hjl) with ⟨x, hx, h34, h92⟩ | ⟨e, hx, h120⟩ | ⟨h1, h2, hx, hh1, hh2⟩
      · have h0 := hat 0 (by rw [hx]; simp)
        simp only [hx, Nat.add_zero, List.getElem_cons_zero] at h0
        rw [h0] at hq
        exact absurd hq (ne_int h34)
      · have h0 := hat 0 (by rw [hx]; simp)
        simp only [hx, Nat.add_zero, List.getElem_cons_zero] at h0
        rw [h0] at hq
        exact absurd hq (by decide)
      · have h0 := hat 0 (by rw [hx]; simp)
        simp only [hx, Nat.add_zero, List.getElem_cons_zero] at h0
        rw [h0] at hq
        exact absurd hq (by decide)
    · have : j = cs.length := by omega
      subst this
      rw [List.take_length]

theorem reads_schunks (cs : List (List UInt8)) (tail : List UInt8) (hc : ∀ c ∈ cs, SChunk c) (hlast : cs.getLast? ≠ some [92]) :
    Reads ⟨(cs.flatten ++ 39 :: tail).toArray⟩ 39 (sqStep ⟨(cs.flatten ++ 39 :: tail).toArray⟩) (fun k => ∃ j, j ≤ cs.length ∧ k = (cs.take j).flatten.length) (cs.flatten.length + 1) := by
  have hsz : (⟨(cs.flatten ++ 39 :: tail).toArray⟩ : ByteArray).size = cs.flatten.length + 1 + tail.length := by rw [size_list, List.length_append, List.length_cons]; omega
  have htail := at_tail cs 39 tail
  have hfirst : ∀ j (h : j < cs.length), bt ⟨(cs.flatten ++ 39 :: tail).toArray⟩ (cs.take j).flatten.length ≠ 39 := by
    intro j hjl
    have hat := at_chunk cs (39 :: tail) j hjl
    rcases hc cs[j] (List.getElem_mem hjl) with ⟨x, hx, h39⟩ | hx
    · have h0 := hat 0 (by rw [hx]; simp)
      simp only [hx, Nat.add_zero, List.getElem_cons_zero] at h0
      rw [h0]
      exact ne_int h39
    · have h0 := hat 0 (by rw [hx]; simp)
      simp only [hx, Nat.add_zero, List.getElem_cons_zero] at h0
      rw [h0]
      decide
  refine ⟨⟨0, Nat.zero_le _, by simp⟩, ?_, ?_, ?_⟩
  · rintro k ⟨j, hj, rfl⟩ hk hq
    by_cases hjl : j < cs.length
    · refine ⟨j + 1, hjl, ?_⟩
      rw [flatten_take_succ cs j hjl]
      congr 1
      have hle := flatten_lt cs j hjl
      have hat := at_chunk cs (39 :: tail) j hjl
      rcases hc cs[j] (List.getElem_mem hjl) with ⟨x, hx, h39⟩ | hx
      · have h0 := hat 0 (by rw [hx]; simp)
        simp only [hx, Nat.add_zero, List.getElem_cons_zero] at h0
        rw [sqStep, if_neg ?_, hx]
        · rfl
        · rw [h0]
          rintro ⟨h92, _, hn⟩
          have hx92 : x = 92 := UInt8.toNat_inj.1 (by have : (x.toNat : Int) = ((92 : UInt8).toNat : Int) := h92; omega)
          subst hx92
          have hs := flatten_take_succ cs j hjl
          rw [hx] at hs
          simp only [List.length_cons, List.length_nil] at hs
          rw [← hs] at hn
          by_cases hj1 : j + 1 < cs.length
          · exact hfirst (j + 1) hj1 hn
          · apply hlast
            rw [List.getLast?_eq_getElem?, show cs.length - 1 = j from by omega, List.getElem?_eq_getElem hjl, hx]
      · have h0 := hat 0 (by rw [hx]; simp)
        have h1 := hat 1 (by rw [hx]; simp)
        simp only [hx, Nat.add_zero, List.getElem_cons_zero, List.getElem_cons_succ] at h0 h1
        rw [hx] at hle
        simp only [List.length_cons, List.length_nil] at hle
        rw [sqStep, if_pos (by rw [h0, h1, hsz]; exact ⟨rfl, by omega, rfl⟩), hx]
        rfl
    · have : j = cs.length := by omega
      subst this
      rw [List.take_length] at hq
      exact absurd htail hq
  · rintro ⟨j, hj, hk⟩
    have := flatten_take_le cs j
    omega
  · rintro k ⟨j, hj, rfl⟩ hk hq
    by_cases hjl : j < cs.length
    · exact absurd hq (hfirst j hjl)
    · have : j = cs.length := by omega
      subst this
      rw [List.take_length]

end Go.Proofs.Qxb6001659a.Glu
