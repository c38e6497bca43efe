/-
  THE PLAIN PART of 'FnMergeSpansCoverExactly': merging spans sorted by their starts; no Go in sight.
-/
namespace Go.Proofs.Qxb6003310a.Mrg

/-- What holds of the merged spans (front ++ [last]) of the spans P. -/
structure Inv (P front : List (Int × Int)) (last : Int × Int) : Prop where
  ok : ∀ x ∈ front ++ [last], x.1 ≤ x.2
  gap : (front ++ [last]).Pairwise (fun a b => a.2 < b.1)
  starts : ∀ x ∈ front ++ [last], ∃ y ∈ P, y.1 = x.1
  ends : ∀ x ∈ front ++ [last], ∃ y ∈ P, y.2 = x.2
  cov : ∀ x : Int, (∃ a ∈ front ++ [last], a.1 ≤ x ∧ x < a.2) ↔ (∃ a ∈ P, a.1 ≤ x ∧ x < a.2)

theorem Inv.start (s : Int × Int) (h : s.1 ≤ s.2) : Inv [s] [] s := by
  refine ⟨by simpa using h, by simp, by simp, by simp, fun x => by simp⟩

theorem Inv.join {P front : List (Int × Int)} {last s : Int × Int} (h : Inv P front last) (hP : ∀ a ∈ P, a.1 ≤ s.1) (hs : s.1 ≤ last.2) : Inv (P ++ [s]) front (last.1, max last.2 s.2) := by
  have hl : last ∈ front ++ [last] := by simp
  have hls : last.1 ≤ s.1 := by
    obtain ⟨y, hy, e⟩ := h.starts last hl
    rw [← e]
    exact hP y hy
  have hg := List.pairwise_append.1 h.gap
  refine ⟨?_, ?_, ?_, ?_, ?_⟩
  · intro x hx
    rcases List.mem_append.1 hx with hx | hx
    · exact h.ok x (by simp [hx])
    · simp at hx
      subst hx
      have := h.ok last hl
      show last.1 ≤ max last.2 s.2
      omega
  · refine List.pairwise_append.2 ⟨hg.1, by simp, ?_⟩
    intro a ha b hb
    simp at hb
    subst hb
    exact hg.2.2 a ha last (by simp)
  · intro x hx
    rcases List.mem_append.1 hx with hx | hx
    · obtain ⟨y, hy, e⟩ := h.starts x (by simp [hx])
      exact ⟨y, by simp [hy], e⟩
    · simp at hx
      subst hx
      obtain ⟨y, hy, e⟩ := h.starts last hl
      exact ⟨y, by simp [hy], e⟩
  · intro x hx
    rcases List.mem_append.1 hx with hx | hx
    · obtain ⟨y, hy, e⟩ := h.ends x (by simp [hx])
      exact ⟨y, by simp [hy], e⟩
    · simp at hx
      subst hx
      by_cases hm : last.2 ≤ s.2
      · exact ⟨s, by simp, by show s.2 = max last.2 s.2; omega⟩
      · obtain ⟨y, hy, e⟩ := h.ends last hl
        exact ⟨y, by simp [hy], by rw [e]; show last.2 = max last.2 s.2; omega⟩
  · intro x
    have hc := h.cov x
    constructor
    · rintro ⟨a, ha, h1, h2⟩
      rcases List.mem_append.1 ha with ha | ha
      · obtain ⟨b, hb, hb'⟩ := hc.1 ⟨a, by simp [ha], h1, h2⟩
        exact ⟨b, by simp [hb], hb'⟩
      · simp at ha
        subst ha
        have h1' : last.1 ≤ x := h1
        have h2' : x < max last.2 s.2 := h2
        by_cases hx : x < last.2
        · obtain ⟨b, hb, hb'⟩ := hc.1 ⟨last, hl, h1', hx⟩
          exact ⟨b, by simp [hb], hb'⟩
        · exact ⟨s, by simp, by omega, by omega⟩
    · rintro ⟨a, ha, h1, h2⟩
      rcases List.mem_append.1 ha with ha | ha
      · obtain ⟨b, hb, hb1, hb2⟩ := hc.2 ⟨a, ha, h1, h2⟩
        rcases List.mem_append.1 hb with hb | hb
        · exact ⟨b, by simp [hb], hb1, hb2⟩
        · simp at hb
          subst hb
          exact ⟨(b.1, max b.2 s.2), by simp, hb1, by show x < max b.2 s.2; omega⟩
      · simp at ha
        subst ha
        exact ⟨(last.1, max last.2 a.2), by simp, by show last.1 ≤ x; omega, by show x < max last.2 a.2; omega⟩

theorem Inv.push {P front : List (Int × Int)} {last s : Int × Int} (h : Inv P front last) (hs : last.2 < s.1) (ho : s.1 ≤ s.2) : Inv (P ++ [s]) (front ++ [last]) s := by
  have hg := List.pairwise_append.1 h.gap
  have hlast := h.ok last (by simp)
  refine ⟨?_, ?_, ?_, ?_, ?_⟩
  · intro x hx
    rcases List.mem_append.1 hx with hx | hx
    · exact h.ok x hx
    · simp at hx
      subst hx
      exact ho
  · refine List.pairwise_append.2 ⟨h.gap, by simp, ?_⟩
    intro a ha b hb
    simp at hb
    subst hb
    rcases List.mem_append.1 ha with ha | ha
    · have := hg.2.2 a ha last (by simp)
      omega
    · simp at ha
      subst ha
      exact hs
  · intro x hx
    rcases List.mem_append.1 hx with hx | hx
    · obtain ⟨y, hy, e⟩ := h.starts x hx
      exact ⟨y, by simp [hy], e⟩
    · simp at hx
      subst hx
      exact ⟨x, by simp, rfl⟩
  · intro x hx
    rcases List.mem_append.1 hx with hx | hx
    · obtain ⟨y, hy, e⟩ := h.ends x hx
      exact ⟨y, by simp [hy], e⟩
    · simp at hx
      subst hx
      exact ⟨x, by simp, rfl⟩
  · intro x
    have hc := h.cov x
    constructor
    · rintro ⟨a, ha, h12⟩
      rcases List.mem_append.1 ha with ha | ha
      · obtain ⟨b, hb, hb'⟩ := hc.1 ⟨a, ha, h12⟩
        exact ⟨b, by simp [hb], hb'⟩
      · exact ⟨a, by simp at ha; simp [ha], h12⟩
    · rintro ⟨a, ha, h12⟩
      rcases List.mem_append.1 ha with ha | ha
      · obtain ⟨b, hb, hb'⟩ := hc.2 ⟨a, ha, h12⟩
        exact ⟨b, List.mem_append_left _ hb, hb'⟩
      · exact ⟨a, List.mem_append_right _ ha, h12⟩

/-- What the whole merge answers: M out of the spans D. -/
structure Merged (D M : List (Int × Int)) : Prop where
  pos : 1 ≤ M.length
  le : M.length ≤ D.length
  ok : ∀ x ∈ M, x.1 ≤ x.2
  gap : ∀ i (h : i + 1 < M.length), (M[i]'(by omega)).2 < M[i + 1].1
  starts : ∀ x ∈ M, ∃ y ∈ D, y.1 = x.1
  ends : ∀ x ∈ M, ∃ y ∈ D, y.2 = x.2
  cov : ∀ x : Int, (∃ a ∈ M, a.1 ≤ x ∧ x < a.2) ↔ (∃ a ∈ D, a.1 ≤ x ∧ x < a.2)

theorem Inv.merged {P D front : List (Int × Int)} {last : Int × Int} (h : Inv P front last) (hp : P.Perm D) (hl : front.length + 1 ≤ P.length) : Merged D (front ++ [last]) := by
  refine ⟨by simp, by rw [List.length_append, ← hp.length_eq]; simpa using hl, h.ok, ?_, ?_, ?_, ?_⟩
  · intro i hi
    exact (List.pairwise_iff_getElem.1 h.gap) i (i + 1) (by omega) hi (by omega)
  · intro x hx
    obtain ⟨y, hy, e⟩ := h.starts x hx
    exact ⟨y, hp.mem_iff.1 hy, e⟩
  · intro x hx
    obtain ⟨y, hy, e⟩ := h.ends x hx
    exact ⟨y, hp.mem_iff.1 hy, e⟩
  · intro x
    rw [h.cov x]
    constructor
    · rintro ⟨a, ha, h12⟩
      exact ⟨a, hp.mem_iff.1 ha, h12⟩
    · rintro ⟨a, ha, h12⟩
      exact ⟨a, hp.mem_iff.2 ha, h12⟩

end Go.Proofs.Qxb6003310a.Mrg
