/-
  THE WALK of mergeSpans (23) and ZZMergeSpans (10).
-/
import Derived.Test.Qxb6003310aOut
import Derived.ArgAppend
namespace Go.Proofs.Qxb6003310a.Mrg
open Go.RowKit

theorem Spans.there {g : Nat} {l : List (Int × Int)} {w : World} (h : Spans g l w) (j : Nat) (hj : j < l.length * 2) : (w.cell? ⟨g, j, none⟩).isSome = true ∧ w.frozen? ⟨g, j, none⟩ = false := by
  obtain ⟨⟨a, b⟩, c, d⟩ := h.2 (j / 2) (by omega)
  rcases Nat.mod_two_eq_zero_or_one j with e | e
  · rw [show j / 2 * 2 = j by omega] at a b
    rw [a, b]
    exact ⟨rfl, rfl⟩
  · rw [show j / 2 * 2 + 1 = j by omega] at c d
    rw [c, d]
    exact ⟨rfl, rfl⟩

/-- The cells of a row, off the world. -/
def cellsOf (g n : Nat) (w : World) : List Value := (List.range n).map fun j => (w.cell? ⟨g, j, none⟩).getD (.int .i64 0)

theorem cellsOf_at {g n : Nat} {l : List (Int × Int)} {w : World} (h : Spans g l w) (hn : n ≤ l.length * 2) (j : Nat) (u : Value) (hu : (cellsOf g n w)[j]? = some u) : w.cell? ⟨g, 0 + j, none⟩ = some u := by
  rw [Nat.zero_add]
  simp only [cellsOf, List.getElem?_map] at hu
  by_cases hj : j < n
  · rw [List.getElem?_range hj] at hu
    obtain ⟨x, hx⟩ := Option.isSome_iff_exists.1 (h.there j (by omega)).1
    rw [hx]
    simpa [hx] using hu
  · rw [List.getElem?_eq_none (by simpa using hj)] at hu
    simp at hu

/-- The merge so far: k + 1 of the sorted spans d have been read; the row is l. -/
structure MInv (g k : Nat) (d front : List (Int × Int)) (last : Int × Int) (l : List (Int × Int)) (w : World) : Prop where
  inv : Inv (d.take (k + 1)) front last
  row : Spans g l w
  len : l.length = d.length
  fl : front.length ≤ k
  tk : l.take (front.length + 1) = front ++ [last]
  dr : l.drop (k + 1) = d.drop (k + 1)

theorem MInv.lastAt {g k : Nat} {d front : List (Int × Int)} {last : Int × Int} {l : List (Int × Int)} {w : World} (h : MInv g k d front last l w) (hk : k + 1 ≤ d.length) :
    ∃ (hl : front.length < l.length), l[front.length] = last := by
  have h1 := h.fl
  have h2 := h.len
  refine ⟨by omega, ?_⟩
  have e : (l.take (front.length + 1))[front.length]? = some last := by rw [h.tk]; simp
  rw [List.getElem?_take, if_pos (by omega), List.getElem?_eq_getElem (by omega)] at e
  exact Option.some.inj e

theorem MInv.nextAt {g k : Nat} {d front : List (Int × Int)} {last : Int × Int} {l : List (Int × Int)} {w : World} (h : MInv g k d front last l w) (hk : k + 1 < d.length) :
    ∃ (hl : k + 1 < l.length), l[k + 1] = d[k + 1] := by
  have h2 := h.len
  refine ⟨by omega, ?_⟩
  have e : (l.drop (k + 1))[0]? = (d.drop (k + 1))[0]? := by rw [h.dr]
  simpa [List.getElem?_drop, List.getElem?_eq_getElem, h2, hk] using e

theorem MInv.below {g k : Nat} {d front : List (Int × Int)} {last : Int × Int} {l : List (Int × Int)} {w w' : World} (h : MInv g k d front last l w) (hb : Below (g + 1) w w') : MInv g k d front last l w' :=
  ⟨h.inv, h.row.below hb, h.len, h.fl, h.tk, h.dr⟩

theorem sorted_ahead {d : List (Int × Int)} (hs : d.Pairwise (fun a b => a.1 ≤ b.1)) {k : Nat} (hk : k < d.length) : ∀ a ∈ d.take k, a.1 ≤ d[k].1 := by
  intro a ha
  obtain ⟨i, hi, rfl⟩ := List.getElem_of_mem ha
  have hi' : i < k := by simp at hi; omega
  rw [List.getElem_take]
  exact (List.pairwise_iff_getElem.1 hs) i k (by omega) hk hi'

theorem MInv.joined {g k : Nat} {d front : List (Int × Int)} {last : Int × Int} {l : List (Int × Int)} {w : World} (h : MInv g k d front last l w) (hs : d.Pairwise (fun a b => a.1 ≤ b.1)) (hk : k + 1 < d.length) (ht : d[k + 1].1 ≤ last.2) :
    ∃ l', MInv g (k + 1) d front (last.1, max last.2 d[k + 1].2) l' (w.setCell ⟨g, front.length * 2 + 1, none⟩ (.int .i64 (max last.2 d[k + 1].2))) := by
  obtain ⟨hl, e⟩ := h.lastAt (by omega)
  have hfl := h.fl
  refine ⟨l.set front.length (last.1, max last.2 d[k + 1].2), ⟨?_, ?_, by simpa using h.len, by omega, ?_, ?_⟩⟩
  · rw [List.take_succ_eq_append_getElem hk]
    exact h.inv.join (sorted_ahead hs hk) ht
  · have := h.row.setEnd front.length hl (max last.2 d[k + 1].2)
    rw [e] at this
    exact this
  · rw [List.take_set, h.tk, List.set_append_right _ _ (Nat.le_refl _)]
    simp
  · rw [List.drop_set_of_lt (by omega), ← List.drop_drop (i := 1) (j := k + 1), h.dr, List.drop_drop]

theorem MInv.pushed {g k : Nat} {d front : List (Int × Int)} {last : Int × Int} {l : List (Int × Int)} {w : World} (h : MInv g k d front last l w) (hk : k + 1 < d.length) (ht : last.2 < d[k + 1].1) (ho : d[k + 1].1 ≤ d[k + 1].2) :
    ∃ l', MInv g (k + 1) d (front ++ [last]) d[k + 1] l' ((w.setCell ⟨g, (front.length + 1) * 2, none⟩ (.int .i64 d[k + 1].1)).setCell ⟨g, (front.length + 1) * 2 + 1, none⟩ (.int .i64 d[k + 1].2)) := by
  have hfl := h.fl
  have hlen := h.len
  have hx : front.length + 1 < l.length := by omega
  refine ⟨l.set (front.length + 1) d[k + 1], ⟨?_, h.row.put _ _, by simpa using h.len, by simp; omega, ?_, ?_⟩⟩
  · rw [List.take_succ_eq_append_getElem hk]
    exact h.inv.push ht ho
  · rw [List.length_append, List.length_singleton, List.take_set, List.take_succ_eq_append_getElem hx, h.tk, List.set_append_right _ _ (by simp)]
    simp
  · rw [List.drop_set_of_lt (by omega), ← List.drop_drop (i := 1) (j := k + 1), h.dr, List.drop_drop]

theorem MInv.done {g k : Nat} {d front D : List (Int × Int)} {last : Int × Int} {l : List (Int × Int)} {w : World} (h : MInv g k d front last l w) (hk : d.length = k + 1) (hp : d.Perm D) :
    Merged D (front ++ [last]) ∧ Spans g (front ++ [last]) w := by
  have hfl := h.fl
  have hlen := h.len
  have hi := h.inv
  rw [← hk, List.take_length] at hi
  refine ⟨hi.merged hp (by omega), h.row.1, fun j hj => ?_⟩
  have hj' : j < l.length := by simp at hj; omega
  have e : (front ++ [last])[j] = l[j] := by
    have : (front ++ [last])[j]? = l[j]? := by
      rw [← h.tk, List.getElem?_take, if_pos (by simpa using hj)]
    rw [List.getElem?_eq_getElem hj, List.getElem?_eq_getElem hj'] at this
    exact Option.some.inj this
  rw [e]
  exact h.row.2 j hj'

/-- The merge so far, its parts left open: fl + 1 spans merged. -/
def MRel (g k fl : Nat) (d : List (Int × Int)) (w : World) : Prop := ∃ front last l, fl = List.length front ∧ MInv g k d front last l w
theorem MRel.below {g k fl : Nat} {d : List (Int × Int)} {w w' : World} (h : MRel g k fl d w) (hb : Below (g + 1) w w') : MRel g k fl d w' := by
  obtain ⟨a, b, c, e, h⟩ := h
  exact ⟨a, b, c, e, h.below hb⟩

def MergePost (g n : Nat) (D : List (Int × Int)) (w : World) (e : Ending) (w' : World) : Prop :=
  ∃ M, e = .returned (.slice (some ⟨g, 0, none⟩) M.length n) ∧ Merged D M ∧ Spans g M w' ∧ Below g w w'

set_option maxHeartbeats 1000000 in
theorem merge_any (g : Nat) (D : List (Int × Int)) (w : World) (h1 : 2 ≤ D.length) (h64 : D.length ≤ 64) (hok : ∀ x ∈ D, x.1 ≤ x.2) (hS : Spans g D w) :
    Calls Try.prog 23 #[.slice (some ⟨g, 0, none⟩) D.length D.length] w fun e w' => MergePost g D.length D w e w' := by
  obtain ⟨i0, hi, hz0, hz1, hz2⟩ := info_parts info30
  have hsort := sort_any g D w hS (by omega)
  go_enter Try.func23, Try.ntmps23
  go_wp2_with (go_at_call 24; refine hsort.mono ?_; rintro e w1 ⟨rfl, d, hp, hs, hd, hB⟩)
  clear hsort
  have hgs : g < w.heap.size := hS.1
  have hdl : d.length = D.length := hp.length_eq
  obtain ⟨m, hm⟩ : ∃ m, D.length - 1 = m := ⟨_, rfl⟩
  have hm' : D.length = m + 1 := by omega
  have hM0 : MRel g 0 0 d w1 := by
    have h0 : 0 < d.length := by omega
    refine ⟨[], d[0], d, rfl, ⟨?_, hd, rfl, Nat.le_refl _, ?_, rfl⟩⟩
    · have e : d.take (0 + 1) = [d[0]] := by rw [List.take_succ_eq_append_getElem h0]; simp
      rw [e]
      exact Inv.start _ (hok _ (hp.mem_iff.1 (List.getElem_mem h0)))
    · rw [List.length_nil, List.take_succ_eq_append_getElem h0]; simp
  have HP : Hid (d.Perm D ∧ d.Pairwise (fun a b => a.1 ≤ b.1) ∧ ∀ x ∈ D, x.1 ≤ x.2) := ⟨hp, hs, hok⟩
  have HD : Hid (d.length = m + 1) := by show _ = _; omega
  clear hp hs hok hdl
  rw [hm]
  generalize hn : D.length = n at hm hm' h1 h64 ⊢
  have HN : Hid (D.length = n) := hn
  clear hn hm
  subst hm'
  go_loopw [3, 14] (fun s c wr => ∃ k fl : Nat, k ≤ m ∧ c = .int .i64 k ∧ s = .slice (some ⟨g, 0, none⟩) (fl + 1) (m + 1) ∧ MRel g k fl d wr ∧ Below g w wr) (fun _ c _ => m - (intOf c).toNat)
  case atStart => exact ⟨0, 0, Nat.zero_le _, rfl, rfl, hM0, hB⟩
  case round =>
    obtain ⟨k, fl, hk, rfl, rfl, hMR, hBr⟩ := hrel
    obtain ⟨front, last, l, hfl, hMI⟩ := hMR
    clear hM0 hB
    by_cases hlt : k < m
    · have hk1 : k + 1 < d.length := by have := HD.out; omega
      obtain ⟨hl0, e0⟩ := hMI.lastAt (by omega)
      obtain ⟨hl1, e1⟩ := hMI.nextAt hk1
      have hfl' : fl = front.length := by omega
      obtain ⟨⟨cl0, fl0⟩, cl1, fl1⟩ := hMI.row.2 front.length hl0
      obtain ⟨⟨cs0, fs0⟩, cs1, fs1⟩ := hMI.row.2 (k + 1) hl1
      rw [e0] at cl0 cl1
      rw [e1] at cs0 cs1
      rw [← hfl'] at cl0 cl1 fl0 fl1
      rw [show (k + 1) * 2 = 2 + k * 2 by omega] at cs0 cs1 fs0 fs1
      have hgr := hMI.row.1
      have JOIN : Hid (∀ wx, Below (g + 1) wr wx → d[k + 1].1 ≤ last.2 → MRel g (k + 1) fl d (wx.setCell ⟨g, fl * 2 + 1, none⟩ (.int .i64 (max last.2 d[k + 1].2)))) := fun wx hx ht => by
        obtain ⟨l', h'⟩ := (hMI.below hx).joined HP.out.2.1 hk1 ht
        rw [← hfl'] at h'
        exact ⟨_, _, _, hfl, h'⟩
      have PUSH : Hid (∀ wx, Below (g + 1) wr wx → last.2 < d[k + 1].1 → MRel g (k + 1) (fl + 1) d ((wx.setCell ⟨g, (fl + 1) * 2, none⟩ (.int .i64 d[k + 1].1)).setCell ⟨g, (fl + 1) * 2 + 1, none⟩ (.int .i64 d[k + 1].2))) := fun wx hx ht => by
        obtain ⟨l', h'⟩ := (hMI.below hx).pushed hk1 ht (HP.out.2.2 _ (HP.out.1.mem_iff.1 (List.getElem_mem hk1)))
        rw [← hfl'] at h'
        exact ⟨_, _, _, by simp; omega, h'⟩
      have hkf : fl ≤ k := by have := hMI.fl; omega
      have HRow : Hid (Spans g l wr ∧ l.length = m + 1) := ⟨hMI.row, by rw [hMI.len, HD.out]⟩
      clear hMI e0 e1 hfl hfl' hl0 hl1
      generalize d[k + 1] = s at cs0 cs1 JOIN PUSH
      clear hk1
      obtain ⟨s0, s1⟩ := s
      obtain ⟨u0, u1⟩ := last
      have hne : g ≠ wr.heap.size := Nat.ne_of_lt hgr
      by_cases ht : s0 ≤ u1
      · have hJ := fun wx hx => JOIN.out wx hx ht
        have HJ : Hid (∀ wx, Below (g + 1) wr wx → MRel g (k + 1) fl d (wx.setCell ⟨g, fl * 2 + 1, none⟩ (.int .i64 (max u1 s1)))) := hJ
        clear JOIN PUSH hJ
        go_wp2
        go_quiet (fail)
        go_wp2
        have hW : Below (g + 1) wr ((wr.alloc (.cells #[.int .i64 s0, .int .i64 s1] 30)).drewN nq) := below_drewN ((Below.refl _ _).alloc hgr _) _
        have d1 := (hW.cell (p := ⟨g, fl * 2 + 1, none⟩) (Nat.lt_succ_self _)).trans cl1
        have d2 := (hW.frozen (p := ⟨g, fl * 2 + 1, none⟩) (Nat.lt_succ_self _)).trans fl1
        have d3 : ((wr.alloc (.cells #[.int .i64 s0, .int .i64 s1] 30)).drewN nq).cell? ⟨wr.heap.size, 1, none⟩ = some (.int .i64 s1) := by simp [go_sem]
        have hB2 : Below g w ((wr.alloc (.cells #[.int .i64 s0, .int .i64 s1] 30)).drewN nq) := hBr.trans (hW.mono (by omega))
        clear cl0 cl1 cs0 cs1 fl0 fl1 fs0 fs1 HRow hBr
        generalize (wr.alloc (.cells #[.int .i64 s0, .int .i64 s1] 30)).drewN nq = wx at hW d1 d2 d3 hB2 ⊢
        go_region
        all_goals
          go_wp2
          go_roundw
          case rel => exact ⟨k + 1, fl, by omega, by go_num, rfl, (HJ.out _ hW).below (Below.refl _ _).drew, (hB2.setCell (p := ⟨g, fl * 2 + 1, none⟩) (Nat.le_refl _) _).drew⟩
          case measure => simp [intOf]; omega
      · have HJ : Hid (∀ wx, Below (g + 1) wr wx → MRel g (k + 1) (fl + 1) d ((wx.setCell ⟨g, (fl + 1) * 2, none⟩ (.int .i64 s0)).setCell ⟨g, (fl + 1) * 2 + 1, none⟩ (.int .i64 s1))) := fun wx hx => PUSH.out wx hx (by omega)
        clear JOIN PUSH
        go_wp2_with fail
        go_quiet (fail)
        have hW : Below (g + 1) wr ((wr.alloc (.cells #[.int .i64 s0, .int .i64 s1] 30)).drewN nq) := below_drewN ((Below.refl _ _).alloc hgr _) _
        have d3 : ((wr.alloc (.cells #[.int .i64 s0, .int .i64 s1] 30)).drewN nq).cell? ⟨wr.heap.size, 0, none⟩ = some (.int .i64 s0) := by simp [go_sem]
        have d4 : ((wr.alloc (.cells #[.int .i64 s0, .int .i64 s1] 30)).drewN nq).cell? ⟨wr.heap.size, 1, none⟩ = some (.int .i64 s1) := by simp [go_sem]
        have hB2 : Below g w ((wr.alloc (.cells #[.int .i64 s0, .int .i64 s1] 30)).drewN nq) := hBr.trans (hW.mono (by omega))
        clear cl0 cl1 cs0 cs1 fl0 fl1 fs0 fs1 hBr
        generalize (wr.alloc (.cells #[.int .i64 s0, .int .i64 s1] 30)).drewN nq = wx at hW d3 d4 hB2 ⊢
        have hgx : g < wx.heap.size := Nat.lt_of_lt_of_le hgr hW.size
        have HX : Hid (∀ o, Spans g l (wx.alloc o)) := fun o => HRow.out.1.below (hW.alloc hgx o)
        have HLn : Hid (l.length = m + 1) := HRow.out.2
        clear HRow
        go_wp2_with (at_builtin; refine wpList_append_arg _ rfl _ _ 25 rfl 30 i0 (.agg #[.int .i64 0, .int .i64 0]) 2 16 Try.underlying25 hi hz0 hz1 hz2 rfl (by decide) g 0 (fl + 1) (m + 1) (cellsOf g ((fl + 1) * 2) _) rfl (by simp [cellsOf]) (cellsOf_at (HX.out _) (by rw [HLn.out]; omega)) ⟨wx.heap.size, 0, none⟩ 1 1 [.int .i64 s0, .int .i64 s1] rfl rfl ?_ ?_ ?_ ?_ ?_ ?_ ?_)
        · intro j u hu
          match j with
          | 0 => simp at hu; subst hu; simp [go_sem]
          | 1 => simp at hu; subst hu; simp [go_sem, Addr.add]
          | j + 2 => simp at hu
        · intro u hu
          simp at hu
          rcases hu with rfl | rfl <;> rfl
        · intro _ j hj
          rw [Nat.zero_add]
          exact (HX.out _).there _ (by rw [HLn.out]; simp at hj; omega)
        · unfold maxLen; omega
        · omega
        · intro _
          go_wp2
          go_roundw
          case rel =>
            have hB3 := (hB2.alloc (Nat.le_of_lt hgx) (.cells #[.int .i64 s0, .int .i64 s1] 30)).setCell (p := ⟨g, (fl + 1) * 2, none⟩) (Nat.le_refl _) (.int .i64 s0)
            exact ⟨k + 1, fl + 1, by omega, by go_num, rfl, HJ.out _ (hW.alloc hgx _), hB3.setCell (p := ⟨g, (fl + 1) * 2 + 1, none⟩) (Nat.le_refl _) (.int .i64 s1)⟩
          case measure => simp [intOf]; omega
        · intro h
          exact absurd h (by omega)
    · have hkm : k = m := by omega
      subst hkm
      obtain ⟨q1, q2⟩ := hMI.done HD.out HP.out.1
      go_wp2
      go_ret
      refine ⟨_, ?_, q1, q2, hBr⟩
      rw [hfl, HN.out]
      simp

set_option maxHeartbeats 1000000 in
theorem merge_one (g : Nat) (x : Int × Int) (w : World) (hok : x.1 ≤ x.2) (hS : Spans g [x] w) :
    Calls Try.prog 23 #[.slice (some ⟨g, 0, none⟩) 1 1] w fun e w' => MergePost g 1 [x] w e w' := by
  have hsort := sort_any g [x] w hS (by simp)
  change Calls Try.prog 24 #[.slice (some ⟨g, 0, none⟩) 1 1, .func (.func 25) #[] #[]] w _ at hsort
  go_enter Try.func23, Try.ntmps23
  go_wp2_with (go_at_call 24; refine hsort.mono ?_; rintro e w1 ⟨rfl, d, hp, hs, hd, hB⟩)
  clear hsort hs
  have e : d = [x] := List.perm_singleton.1 hp
  subst e
  clear hp
  have HM : Hid (Merged [x] [x]) := (Inv.start x hok).merged (List.Perm.refl _) (by simp)
  go_loopw [3, 14] (fun s c wr => c = .int .i64 0 ∧ s = .slice (some ⟨g, 0, none⟩) 1 1 ∧ wr = w1) (fun _ c _ => 0 - (intOf c).toNat)
  case atStart => exact ⟨rfl, rfl, rfl⟩
  case round =>
    obtain ⟨rfl, rfl, rfl⟩ := hrel
    go_wp2
    go_ret
    exact ⟨[x], rfl, HM.out, hd, hB⟩

theorem merge_all (g : Nat) (D : List (Int × Int)) (w : World) (h1 : 1 ≤ D.length) (h64 : D.length ≤ 64) (hok : ∀ x ∈ D, x.1 ≤ x.2) (hS : Spans g D w) :
    Calls Try.prog 23 #[.slice (some ⟨g, 0, none⟩) D.length D.length] w fun e w' => MergePost g D.length D w e w' := by
  by_cases h : 2 ≤ D.length
  · exact merge_any g D w h h64 hok hS
  · match D, h1, h, hok, hS with
    | [x], _, _, hok, hS => exact merge_one g x w (hok x (by simp)) hS
    | x :: y :: r, _, h, _, _ => exact absurd (by simp) h

theorem zzmerge_any (g : Nat) (D : List (Int × Int)) (w : World) (h1 : 1 ≤ D.length) (h64 : D.length ≤ 64) (hok : ∀ x ∈ D, x.1 ≤ x.2) (hS : Spans g D w) :
    Calls Try.prog 10 #[.slice (some ⟨g, 0, none⟩) D.length D.length] w fun e w' => MergePost g D.length D w e w' := by
  have H := merge_all g D w h1 h64 hok hS
  clear hok
  go_enter Try.func10, Try.ntmps10
  go_wp2_with (go_at_call 23; refine H.mono ?_; rintro e w1 ⟨M, rfl, hm, hs, hb⟩)
  clear H
  go_ret
  exact ⟨M, rfl, hm, hs, hb⟩

end Go.Proofs.Qxb6003310a.Mrg
