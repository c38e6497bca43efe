/-
  THE WALKS over rows of spans: zzBuild (11), zzCoveredOut (16).
-/
import Derived.Test.Qxb6003310aIn
import Derived.Deep.RegionHeld3
namespace Go.Proofs.Qxb6003310a.Mrg
open Go.RowKit

theorem make_eq (s e : Int) (w : World) : Calls Try.prog 21 #[.int .i64 s, .int .i64 e] w fun x w' => x = .returned (.agg #[.int .i64 s, .int .i64 e]) ∧ w.alloc (.cells #[.int .i64 s, .int .i64 e] 30) = w' := by
  go_enter Try.func21, Try.ntmps21
  go_wp2
  exact bodyPost_ret (v := .agg #[.int .i64 s, .int .i64 e]) (by simp [results, Try.results21, go_sem]; try rfl) rfl ⟨rfl, rfl⟩

theorem start_eq (s e : Int) (w : World) : Calls Try.prog 12 #[.agg #[.int .i64 s, .int .i64 e]] w fun x w' => x = .returned (.int .i64 s) ∧ w.alloc (.cells #[.int .i64 s, .int .i64 e] 30) = w' := by
  go_enter Try.func12, Try.ntmps12
  go_wp2
  go_ret
  exact ⟨rfl, rfl⟩

theorem end_eq (s e : Int) (w : World) : Calls Try.prog 13 #[.agg #[.int .i64 s, .int .i64 e]] w fun x w' => x = .returned (.int .i64 e) ∧ w.alloc (.cells #[.int .i64 s, .int .i64 e] 30) = w' := by
  go_enter Try.func13, Try.ntmps13
  go_wp2
  go_ret
  exact ⟨rfl, rfl⟩

theorem info30 : (Try.prog.info? 30).map (fun i => (i.zero, i.size, i.bytes)) = some (some (.agg #[.int .i64 0, .int .i64 0]), 2, 16) := by kernel_rfl

theorem made_two (n j : Nat) (h : j < n) : (madeCells #[Value.int .i64 0, Value.int .i64 0] n).toList[j]? = some (Value.int .i64 0) := by
  have e : (#[Value.int .i64 0, Value.int .i64 0])[j % 2]! = Value.int .i64 0 := by
    rcases Nat.mod_two_eq_zero_or_one j with h | h <;> rw [h] <;> rfl
  simp [madeCells, h]
  simpa using e

/-- The row so far: k of the spans D have been laid at block g. -/
def Built (g k : Nat) (D : List (Int × Int)) (w : World) : Prop :=
  g < w.heap.size ∧ ∀ j (h : j < D.length), ∃ u v : Int, (w.cell? ⟨g, j * 2, none⟩ = some (.int .i64 u) ∧ w.frozen? ⟨g, j * 2, none⟩ = false) ∧ (w.cell? ⟨g, j * 2 + 1, none⟩ = some (.int .i64 v) ∧ w.frozen? ⟨g, j * 2 + 1, none⟩ = false) ∧ (j < k → D[j] = (u, v))

theorem Built.spans {g k : Nat} {D : List (Int × Int)} {w : World} (h : Built g k D w) (hk : D.length ≤ k) : Spans g D w := by
  refine ⟨h.1, fun j hj => ?_⟩
  obtain ⟨u, v, a, b, e⟩ := h.2 j hj
  rw [e (by omega)]
  exact ⟨a, b⟩

theorem Built.below {g k : Nat} {D : List (Int × Int)} {w w' : World} (h : Built g k D w) (hb : Below (g + 1) w w') : Built g k D w' := by
  refine ⟨Nat.lt_of_lt_of_le h.1 hb.size, fun j hj => ?_⟩
  have c : ∀ o, w'.cell? ⟨g, o, none⟩ = w.cell? ⟨g, o, none⟩ := fun o => hb.cell (p := ⟨g, o, none⟩) (by show g < g + 1; omega)
  have f : ∀ o, w'.frozen? ⟨g, o, none⟩ = w.frozen? ⟨g, o, none⟩ := fun o => hb.frozen (p := ⟨g, o, none⟩) (by show g < g + 1; omega)
  rw [c, c, f, f]
  exact h.2 j hj

theorem Built.put {g k : Nat} {D : List (Int × Int)} {w : World} (h : Built g k D w) (hk : k < D.length) : Built g (k + 1) D ((w.setCell ⟨g, k * 2, none⟩ (.int .i64 D[k].1)).setCell ⟨g, k * 2 + 1, none⟩ (.int .i64 D[k].2)) := by
  refine ⟨by simpa [World.setCell] using h.1, fun j hj => ?_⟩
  obtain ⟨u, v, ⟨a, b⟩, ⟨c, d⟩, e⟩ := h.2 j hj
  by_cases q : k = j
  · subst q
    exact ⟨D[k].1, D[k].2, by simp [go_sem, a, b], by simp [go_sem, c, d], fun _ => rfl⟩
  · exact ⟨u, v, by simp [go_sem, a, b], by simp [go_sem, c, d], fun h => e (by omega)⟩

set_option maxHeartbeats 1000000 in
theorem build_any (b0 c0 b1 c1 : Nat) (S E : List Int) (w : World) (hm : S.length ≤ 64) (hE : E.length = S.length) (hS : Ints b0 0 S w) (hI : Ints b1 0 E w) :
    Calls Try.prog 11 #[.slice (some ⟨b0, 0, none⟩) S.length c0, .slice (some ⟨b1, 0, none⟩) S.length c1] w fun e w' => e = .returned (.slice (some ⟨w.heap.size, 0, none⟩) S.length S.length) ∧ Spans w.heap.size (S.zip E) w' ∧ Below w.heap.size w w' := by
  obtain ⟨i0, hi, hz0, hz1, hz2⟩ := info_parts info30
  have hlen : (S.zip E).length = S.length := by simp [hE]
  have HL : Hid ((S.zip E).length = S.length) := hlen
  clear hlen
  go_enter Try.func11, Try.ntmps11
  go_wp2_with (at_make; refine wpList_make_full _ rfl _ _ 25 rfl w.heap.size 30 i0 (.agg #[.int .i64 0, .int .i64 0]) 2 Try.underlying25 hi hz0 hz1 _ _ _ _ S.length rfl rfl rfl rfl (by rw [hz2]; omega) (by unfold maxLen; omega) (Nat.le_refl _) ?_; intro w1 hown hgrow)
  have hR : Built w.heap.size 0 (S.zip E) w1 := by
    refine ⟨(hown.lt _ rfl).2, fun j hj => ⟨0, 0, ⟨?_, hown.frozenAt _⟩, ⟨?_, hown.frozenAt _⟩, fun h => by omega⟩⟩
    · rw [hown.cellAt _ (by rw [HL.out] at hj; omega)]
      exact made_two _ _ (by rw [HL.out] at hj; omega)
    · rw [hown.cellAt _ (by rw [HL.out] at hj; omega)]
      exact made_two _ _ (by rw [HL.out] at hj; omega)
  have hB : Below w.heap.size w w1 := (Below.refl _ _).grown hgrow (Nat.le_refl _) (by simp)
  clear hown hgrow
  go_loopw [6] (fun i wr => ∃ k : Nat, k ≤ S.length ∧ i = .int .i64 k ∧ Built w.heap.size k (S.zip E) wr ∧ Below w.heap.size w wr) (fun i _ => S.length - (intOf i).toNat)
  case atStart => exact ⟨0, Nat.zero_le _, rfl, hR, hB⟩
  case round =>
    obtain ⟨k, hk, rfl, hRr, hBr⟩ := hrel
    clear hR hB
    by_cases hlt : k < S.length
    · have h0 := (hS.below hBr hS.1).2 k hlt
      have h1 := (hI.below hBr hI.1).2 k (by omega)
      rw [Nat.zero_add] at h0 h1
      have hD : (S.zip E)[k]'(by rw [HL.out]; exact hlt) = (S[k], E[k]'(by omega)) := by simp
      obtain ⟨u, v, ⟨p0, f0⟩, ⟨p1, f1⟩, _⟩ := hRr.2 k (by rw [HL.out]; exact hlt)
      have hgs := hRr.1
      have HN : Hid (∀ wx, Built w.heap.size k (S.zip E) wx → Built w.heap.size (k + 1) (S.zip E) ((wx.setCell ⟨w.heap.size, k * 2, none⟩ (.int .i64 S[k])).setCell ⟨w.heap.size, k * 2 + 1, none⟩ (.int .i64 (E[k]'(by omega))))) := fun wx hx => by
        have := hx.put (k := k) (by rw [HL.out]; exact hlt)
        rw [hD] at this
        exact this
      clear hD
      have hne0 : b0 ≠ w.heap.size := Nat.ne_of_lt hS.1
      have hne1 : b1 ≠ w.heap.size := Nat.ne_of_lt hI.1
      have hne2 : b0 ≠ wr.heap.size := Nat.ne_of_lt (Nat.lt_of_lt_of_le hS.1 hBr.size)
      have hne3 : b1 ≠ wr.heap.size := Nat.ne_of_lt (Nat.lt_of_lt_of_le hI.1 hBr.size)
      have hne4 : w.heap.size ≠ wr.heap.size := Nat.ne_of_lt hgs
      generalize S[k] = s at h0 HN
      generalize E[k]'(by omega) = f at h1 HN
      go_wp2
      have H1 : Built w.heap.size (k + 1) (S.zip E) ((wr.setCell ⟨w.heap.size, k * 2, none⟩ (.int .i64 s)).setCell ⟨w.heap.size, k * 2 + 1, none⟩ (.int .i64 f)) := HN.out wr hRr
      have B3 : ∀ v1 v2, Below w.heap.size wr ((wr.setCell ⟨w.heap.size, k * 2, none⟩ v1).setCell ⟨w.heap.size, k * 2 + 1, none⟩ v2) := fun v1 v2 => by
        have a : Below w.heap.size wr (wr.setCell ⟨w.heap.size, k * 2, none⟩ v1) := (Below.refl _ _).setCell (p := ⟨w.heap.size, k * 2, none⟩) (Nat.le_refl _) _
        exact a.setCell (p := ⟨w.heap.size, k * 2 + 1, none⟩) (Nat.le_refl _) _
      have KEEP : Hid (∀ v1 v2 o, (((wr.setCell ⟨w.heap.size, k * 2, none⟩ v1).setCell ⟨w.heap.size, k * 2 + 1, none⟩ v2).alloc o).drew.cell? ⟨b0, k, none⟩ = some (.int .i64 s) ∧ (((wr.setCell ⟨w.heap.size, k * 2, none⟩ v1).setCell ⟨w.heap.size, k * 2 + 1, none⟩ v2).alloc o).drew.cell? ⟨b1, k, none⟩ = some (.int .i64 f)) := fun v1 v2 o => by
        have hx := ((B3 v1 v2).alloc (Nat.le_trans (Nat.le_of_lt hgs) (B3 v1 v2).size) o).drew
        exact ⟨(hx.cell (p := ⟨b0, k, none⟩) hS.1).trans h0, (hx.cell (p := ⟨b1, k, none⟩) hI.1).trans h1⟩
      go_region_held3 (fun w' => w'.cell? ⟨b0, k, none⟩ = some (.int .i64 s) ∧ w'.cell? ⟨b1, k, none⟩ = some (.int .i64 f)) (first | (go_keep; done) | exact KEEP.out _ _ _ | exact (KEEP.out _ _ _).1 | exact (KEEP.out _ _ _).2) ((go_at_call 21; refine (make_eq _ _ _).mono ?_; rintro e w2 ⟨rfl, rfl⟩))
      all_goals
        go_wp2
        go_roundw
        case rel => exact ⟨k + 1, by omega, by go_num, H1.below ((Below.refl _ _).alloc H1.1 _).drew, (((hBr.trans (B3 _ _)).alloc (Nat.le_of_lt H1.1) _).drew)⟩
        case measure => simp [intOf]; omega
    · go_wp2
      go_ret
      exact ⟨rfl, hRr.spans (by rw [HL.out]; omega), hBr⟩

set_option maxHeartbeats 1000000 in
theorem out_any (g cap : Nat) (M : List (Int × Int)) (x : Int) (c : Bool) (w : World) (hm : M.length ≤ 64) (hS : Spans g M w) (hc : Hid (covB M x = c)) :
    Calls Try.prog 16 #[.slice (some ⟨g, 0, none⟩) M.length cap, .int .i64 x] w fun e w' => e = .returned (.bool c) ∧ Below w.heap.size w w' := by
  go_enter Try.func16, Try.ntmps16
  go_wp2
  go_loopw [5] (fun i wr => ∃ k : Nat, k ≤ M.length ∧ i = .int .i64 k ∧ Hid (covB (M.drop k) x = c) ∧ Below w.heap.size w wr) (fun i _ => M.length - (intOf i).toNat)
  case atStart => exact ⟨0, Nat.zero_le _, rfl, hc, Below.refl _ _⟩
  case round =>
    obtain ⟨k, hk, rfl, hr, hBr⟩ := hrel
    by_cases hlt : k < M.length
    · obtain ⟨⟨p0, _⟩, p1, _⟩ := (hS.below (hBr.mono hS.1)).2 k hlt
      have HIT : Hid (M[k].1 ≤ x → x < M[k].2 → c = true) := fun a1 a2 => by
        rw [← hr.out]
        exact covB_hit hlt a1 a2
      have MISS : Hid (¬ (M[k].1 ≤ x ∧ x < M[k].2) → Hid (covB (M.drop (k + 1)) x = c)) := fun a => by
        show _ = _
        rw [covB_miss hlt a]
        exact hr.out
      clear hr hc
      have hgs : g < wr.heap.size := Nat.lt_of_lt_of_le hS.1 hBr.size
      generalize M[k].1 = s at p0 HIT MISS
      generalize M[k].2 = f at p1 HIT MISS
      by_cases t1 : s ≤ x
      · by_cases t2 : x < f
        · have := HIT.out t1 t2
          subst this
          clear HIT MISS
          go_wp2_with (first | (go_at_call 12; refine (start_eq _ _ _).mono ?_; rintro e w2 ⟨rfl, rfl⟩) | (go_at_call 13; refine (end_eq _ _ _).mono ?_; rintro e w2 ⟨rfl, rfl⟩))
          go_ret
          exact ⟨rfl, (hBr.alloc hBr.size _).alloc (by simp; have := hBr.size; omega) _⟩
        · have hr' := MISS.out (by omega)
          clear HIT MISS
          go_wp2_with (first | (go_at_call 12; refine (start_eq _ _ _).mono ?_; rintro e w2 ⟨rfl, rfl⟩) | (go_at_call 13; refine (end_eq _ _ _).mono ?_; rintro e w2 ⟨rfl, rfl⟩))
          go_roundw
          case rel => exact ⟨k + 1, by omega, by go_num, hr', (hBr.alloc hBr.size _).alloc (by simp; have := hBr.size; omega) _⟩
          case measure => simp [intOf]; omega
      · have hr' := MISS.out (by omega)
        clear HIT MISS
        go_wp2_with (first | (go_at_call 12; refine (start_eq _ _ _).mono ?_; rintro e w2 ⟨rfl, rfl⟩) | (go_at_call 13; refine (end_eq _ _ _).mono ?_; rintro e w2 ⟨rfl, rfl⟩))
        go_roundw
        case rel => exact ⟨k + 1, by omega, by go_num, hr', hBr.alloc hBr.size _⟩
        case measure => simp [intOf]; omega
    · have hkl : k = M.length := by omega
      have : c = false := by
        rw [← hr.out, hkl]
        exact covB_end
      subst this hkl
      clear hr hc
      go_wp2
      go_ret
      exact ⟨rfl, hBr⟩

end Go.Proofs.Qxb6003310a.Mrg
