/-
  THE WALKS over rows of ints: zzBytes (7), zzSpansFit (8), zzCloneInts (9), zzIsSomeStart (14), zzCoveredIn (15); ZZSpanStart (12), ZZSpanEnd (13), ZZMakeSpan (21).
-/
import Derived.Test.Qxb6003310aSort
import Derived.Test.Qxb6003310aPlain
import Derived.WalkSpells
import Derived.WalkLawsBesides
import Derived.Deep.QuietTactic
import Derived.BigQuiet
namespace Go.Proofs.Qxb6003310a.Mrg
open Go.RowKit

/-- The row at block b, from off on, holds the numbers zs. -/
def Ints (b off : Nat) (zs : List Int) (w : World) : Prop :=
  b < w.heap.size ∧ ∀ j (h : j < zs.length), w.cell? ⟨b, off + j, none⟩ = some (.int .i64 zs[j])

theorem Ints.below {b off B : Nat} {zs : List Int} {w w' : World} (h : Ints b off zs w) (hb : Below B w w') (hB : b < B) : Ints b off zs w' :=
  ⟨Nat.lt_of_lt_of_le h.1 hb.size, fun j hj => (hb.cell (p := ⟨b, off + j, none⟩) hB).trans (h.2 j hj)⟩

/-- Some x of the spans D covers. -/
def covB (D : List (Int × Int)) (x : Int) : Bool := D.any (fun a => decide (a.1 ≤ x) && decide (x < a.2))

theorem covB_iff (D : List (Int × Int)) (x : Int) : covB D x = true ↔ ∃ a ∈ D, a.1 ≤ x ∧ x < a.2 := by simp [covB]

theorem covB_same {D M : List (Int × Int)} (x : Int) (h : (∃ a ∈ M, a.1 ≤ x ∧ x < a.2) ↔ (∃ a ∈ D, a.1 ≤ x ∧ x < a.2)) : covB D x = covB M x := by
  rw [Bool.eq_iff_iff, covB_iff, covB_iff]
  exact h.symm

theorem covB_hit {D : List (Int × Int)} {x : Int} {k : Nat} (hk : k < D.length) (h1 : D[k].1 ≤ x) (h2 : x < D[k].2) : covB (D.drop k) x = true := by
  unfold covB
  rw [List.drop_eq_getElem_cons hk, List.any_cons, decide_eq_true h1, decide_eq_true h2]
  rfl

theorem covB_miss {D : List (Int × Int)} {x : Int} {k : Nat} (hk : k < D.length) (h : ¬ (D[k].1 ≤ x ∧ x < D[k].2)) : covB (D.drop (k + 1)) x = covB (D.drop k) x := by
  unfold covB
  rw [List.drop_eq_getElem_cons hk, List.any_cons]
  by_cases h1 : D[k].1 ≤ x
  · have h2 : ¬ x < D[k].2 := fun h2 => h ⟨h1, h2⟩
    rw [decide_eq_false h2, Bool.and_false, Bool.false_or]
  · rw [decide_eq_false h1, Bool.false_and, Bool.false_or]

theorem covB_end {D : List (Int × Int)} {x : Int} : covB (D.drop D.length) x = false := by simp [covB]

def Any (e : Ending) : Prop := ∃ r, e = .returned (.bool r)
theorem Any.of (r : Bool) : Any (.returned (.bool r)) := ⟨r, rfl⟩

set_option maxHeartbeats 400000 in
theorem bytes_any (a0 : Option Addr) (l0 c0 : Nat) (a1 : Option Addr) (l1 c1 : Nat) (w : World) (h0 : l0 ≤ maxLen) (h1 : l1 ≤ maxLen) :
    Calls Try.prog 7 #[.slice a0 l0 c0, .slice a1 l1 c1] w fun e w' => Any e ∧ w = w' := by
  unfold maxLen at h0 h1
  go_enter Try.func7, Try.ntmps7
  go_wp2
  all_goals (go_ret; exact ⟨Any.of _, rfl⟩)

theorem start_any (s e : Int) (w : World) : Calls Try.prog 12 #[.agg #[.int .i64 s, .int .i64 e]] w fun x w' => x = .returned (.int .i64 s) ∧ Below w.heap.size w w' := by
  go_enter Try.func12, Try.ntmps12
  go_wp2
  go_ret
  exact ⟨rfl, (Below.refl _ _).alloc (Nat.le_refl _) _⟩

theorem end_any (s e : Int) (w : World) : Calls Try.prog 13 #[.agg #[.int .i64 s, .int .i64 e]] w fun x w' => x = .returned (.int .i64 e) ∧ Below w.heap.size w w' := by
  go_enter Try.func13, Try.ntmps13
  go_wp2
  go_ret
  exact ⟨rfl, (Below.refl _ _).alloc (Nat.le_refl _) _⟩

theorem make_any (s e : Int) (w : World) : Calls Try.prog 21 #[.int .i64 s, .int .i64 e] w fun x w' => x = .returned (.agg #[.int .i64 s, .int .i64 e]) ∧ Below w.heap.size w w' := by
  go_enter Try.func21, Try.ntmps21
  go_wp2
  refine bodyPost_ret (v := .agg #[.int .i64 s, .int .i64 e]) (by simp [results, Try.results21, go_sem]; try rfl) rfl ⟨rfl, ?_⟩
  exact (Below.refl _ _).alloc (Nat.le_refl _) _

set_option maxHeartbeats 400000 in
theorem some_any (b off c : Nat) (zs : List Int) (v : Int) (w : World) (hm : zs.length ≤ 1048576) (hI : Ints b off zs w) (hv : v ∈ zs) :
    Calls Try.prog 14 #[.slice (some ⟨b, off, none⟩) zs.length c, .int .i64 v] w fun e w' => e = .returned (.bool true) ∧ w = w' := by
  obtain ⟨i0, hi0, hv0⟩ := List.getElem_of_mem hv
  clear hv
  go_enter Try.func14, Try.ntmps14
  go_wp2
  go_loop [5] (fun i => ∃ k : Nat, k ≤ i0 ∧ i = .int .i64 k) (fun i => zs.length - (intOf i).toNat)
  case atStart => exact ⟨0, Nat.zero_le _, rfl⟩
  case round =>
    obtain ⟨k, hk, rfl⟩ := hrel
    have hlt : k < zs.length := by omega
    have hc := hI.2 k hlt
    by_cases he : zs[k] = v
    · rw [he] at hc
      clear hv0 he
      go_wp2
      go_ret
      exact ⟨rfl, rfl⟩
    · have hne : k ≠ i0 := fun h => he (by subst h; exact hv0)
      have hb : (zs[k] == v) = false := by simpa using he
      generalize zs[k] = z at hc hb
      clear hv0
      go_wp2
      go_round
      case rel => exact ⟨k + 1, by omega, by go_num⟩
      case measure => simp [intOf]; omega

set_option maxHeartbeats 400000 in
theorem in_any (b0 c0 b1 c1 : Nat) (S E : List Int) (x : Int) (c : Bool) (w : World) (hm : S.length ≤ 1048576) (hE : E.length = S.length) (hS : Ints b0 0 S w) (hI : Ints b1 0 E w) (hc : Hid (covB (S.zip E) x = c)) :
    Calls Try.prog 15 #[.slice (some ⟨b0, 0, none⟩) S.length c0, .slice (some ⟨b1, 0, none⟩) S.length c1, .int .i64 x] w fun e w' => e = .returned (.bool c) ∧ w = w' := by
  have hlen : (S.zip E).length = S.length := by simp [hE]
  go_enter Try.func15, Try.ntmps15
  go_wp2
  go_loop [7] (fun i => ∃ k : Nat, k ≤ S.length ∧ i = .int .i64 k ∧ Hid (covB ((S.zip E).drop k) x = c)) (fun i => S.length - (intOf i).toNat)
  case atStart => exact ⟨0, Nat.zero_le _, rfl, hc⟩
  case round =>
    obtain ⟨k, hk, rfl, hr⟩ := hrel
    by_cases hlt : k < S.length
    · have h0 := hS.2 k hlt
      have h1 := hI.2 k (by omega)
      rw [Nat.zero_add] at h0 h1
      have g1 : ((S.zip E)[k]'(by omega)).1 = S[k] := by simp
      have g2 : ((S.zip E)[k]'(by omega)).2 = E[k]'(by omega) := by simp
      have HIT : Hid (S[k] ≤ x → x < E[k]'(by omega) → c = true) := fun a1 a2 => by
        rw [← hr.out]
        exact covB_hit (by omega) (by rw [g1]; exact a1) (by rw [g2]; exact a2)
      have MISS : Hid (¬ (S[k] ≤ x ∧ x < E[k]'(by omega)) → Hid (covB ((S.zip E).drop (k + 1)) x = c)) := fun a => by
        show _ = _
        rw [covB_miss (by omega) (by rw [g1, g2]; exact a)]
        exact hr.out
      clear g1 g2 hr hc
      generalize S[k] = s at h0 HIT MISS
      generalize E[k]'(by omega) = f at h1 HIT MISS
      by_cases t1 : s ≤ x
      · by_cases t2 : x < f
        · have := HIT.out t1 t2
          subst this
          clear HIT MISS
          go_wp2
          go_ret
          exact ⟨rfl, rfl⟩
        · have hr' := MISS.out (by omega)
          clear HIT MISS
          go_wp2
          go_round
          case rel => exact ⟨k + 1, by omega, by go_num, hr'⟩
          case measure => simp [intOf]; omega
      · have hr' := MISS.out (by omega)
        clear HIT MISS
        go_wp2
        go_round
        case rel => exact ⟨k + 1, by omega, by go_num, hr'⟩
        case measure => simp [intOf]; omega
    · have hkl : k = S.length := by omega
      have : c = false := by
        rw [← hr.out, hkl, ← hlen]
        exact covB_end
      subst this hkl
      clear hr hc
      go_wp2
      go_ret
      exact ⟨rfl, rfl⟩

/-- Each span lies in the law's bounds. -/
def Fit (n : Nat) (S E : List Int) : Prop := ∀ j (h : j < S.length) (h' : j < E.length), j < n → 0 ≤ S[j] ∧ S[j] ≤ E[j] ∧ E[j] ≤ 4096

theorem Fit.next {n : Nat} {S E : List Int} (h : Fit n S E) (h0 : n < S.length) (h1 : n < E.length) (a : 0 ≤ S[n]) (b : S[n] ≤ E[n]) (c : E[n] ≤ 4096) : Fit (n + 1) S E := by
  intro j hj hj' hn
  by_cases e : j = n
  · subst e
    exact ⟨a, b, c⟩
  · exact h j hj hj' (by omega)

def FitPost (S E : List Int) (e : Ending) : Prop := e = .returned (.bool false) ∨ (e = .returned (.bool true) ∧ Fit S.length S E)

set_option maxHeartbeats 400000 in
theorem fit_no (a0 : Option Addr) (l0 c0 : Nat) (a1 : Option Addr) (l1 c1 : Nat) (w : World) (h0 : l0 ≤ maxLen) (_h1 : l1 ≤ maxLen) (h : l0 < 1 ∨ 64 < l0 ∨ l1 ≠ l0) :
    Calls Try.prog 8 #[.slice a0 l0 c0, .slice a1 l1 c1] w fun e w' => e = .returned (.bool false) ∧ w = w' := by
  unfold maxLen at h0 _h1
  by_cases t1 : l0 < 1
  · clear h
    go_enter Try.func8, Try.ntmps8
    go_wp2
    go_ret
    exact ⟨rfl, rfl⟩
  · by_cases t2 : 64 < l0
    · clear h
      go_enter Try.func8, Try.ntmps8
      go_wp2
      go_ret
      exact ⟨rfl, rfl⟩
    · have t3 : ((l1 : Int) != (l0 : Int)) = true := by simp; omega
      clear h
      go_enter Try.func8, Try.ntmps8
      go_wp2
      go_ret
      exact ⟨rfl, rfl⟩

set_option maxHeartbeats 800000 in
theorem fit_any (b0 o0 c0 b1 o1 c1 : Nat) (S E : List Int) (w : World) (_h1 : 1 ≤ S.length) (h64 : S.length ≤ 64) (hE : E.length = S.length) (hS : Ints b0 o0 S w) (hI : Ints b1 o1 E w) :
    Calls Try.prog 8 #[.slice (some ⟨b0, o0, none⟩) S.length c0, .slice (some ⟨b1, o1, none⟩) S.length c1] w fun e w' => FitPost S E e ∧ Below w.heap.size w w' := by
  have hF0 : Fit 0 S E := fun j _ _ h => by omega
  go_enter Try.func8, Try.ntmps8
  go_wp2
  go_loopw [5] (fun i wr => ∃ k : Nat, k ≤ S.length ∧ i = .int .i64 k ∧ Hid (Fit k S E) ∧ Below w.heap.size w wr) (fun i _ => S.length - (intOf i).toNat)
  case atStart => exact ⟨0, Nat.zero_le _, rfl, hF0, Below.refl _ _⟩
  case round =>
    obtain ⟨k, hk, rfl, hF, hBr⟩ := hrel
    clear hF0
    by_cases hlt : k < S.length
    · have c0 := (hS.below hBr hS.1).2 k hlt
      have c1 := (hI.below hBr hI.1).2 k (by omega)
      have NEXT : Hid (0 ≤ S[k] → S[k] ≤ E[k]'(by omega) → E[k]'(by omega) ≤ 4096 → Hid (Fit (k + 1) S E)) := fun a b c => hF.out.next hlt (by omega) a b c
      clear hF
      generalize S[k] = s at c0 NEXT
      generalize E[k]'(by omega) = f at c1 NEXT
      by_cases t1 : s < 0
      · clear NEXT
        go_wp2
        go_quiet (fail)
        go_wp2
        go_ret
        exact ⟨.inl rfl, below_drewN hBr _⟩
      · by_cases t2 : f < s
        · clear NEXT
          go_wp2
          go_quiet (fail)
          go_wp2
          go_ret
          exact ⟨.inl rfl, below_drewN hBr _⟩
        · by_cases t3 : 4096 < f
          · clear NEXT
            go_wp2
            go_quiet (fail)
            go_wp2
            go_ret
            exact ⟨.inl rfl, below_drewN hBr _⟩
          · have hF := NEXT.out (by omega) (by omega) (by omega)
            clear NEXT
            go_wp2
            go_quiet (fail)
            go_wp2
            go_roundw
            case rel => exact ⟨k + 1, by omega, by go_num, hF, below_drewN hBr _⟩
            case measure => simp [intOf]; omega
    · have hkl : k = S.length := by omega
      rw [hkl] at hF
      subst hkl
      go_wp2
      go_ret
      exact ⟨.inr ⟨rfl, hF.out⟩, hBr⟩

theorem info3 : (Try.prog.info? 3).map (fun i => (i.zero, i.size, i.bytes)) = some (some (.int .i64 0), 1, 8) := by kernel_rfl

theorem Ints.put {g : Nat} {zs : List Int} {w : World} (h : Ints g 0 zs w) (k : Nat) (v : Int) : Ints g 0 (zs.set k v) (w.setCell ⟨g, k, none⟩ (.int .i64 v)) := by
  refine ⟨by simpa [World.setCell] using h.1, fun j hj => ?_⟩
  have hj' : j < zs.length := by simpa using hj
  have a := h.2 j hj'
  rw [Nat.zero_add] at a ⊢
  by_cases e : k = j
  · subst e
    simp [go_sem, a]
  · simp [go_sem, a, e]

/-- The clone so far: k of the numbers zs have been copied to block g. -/
def Copied (g k : Nat) (zs : List Int) (w : World) : Prop :=
  g < w.heap.size ∧ ∀ j (h : j < zs.length), (∃ v, w.cell? ⟨g, j, none⟩ = some (.int .i64 v) ∧ (j < k → v = zs[j])) ∧ w.frozen? ⟨g, j, none⟩ = false

theorem Copied.ints {g k : Nat} {zs : List Int} {w : World} (h : Copied g k zs w) (hk : zs.length ≤ k) : Ints g 0 zs w := by
  refine ⟨h.1, fun j hj => ?_⟩
  obtain ⟨⟨v, hv, e⟩, _⟩ := h.2 j hj
  rw [Nat.zero_add, hv, e (by omega)]

theorem Copied.put {g k : Nat} {zs : List Int} {w : World} (h : Copied g k zs w) (hk : k < zs.length) : Copied g (k + 1) zs (w.setCell ⟨g, k, none⟩ (.int .i64 zs[k])) := by
  refine ⟨by simpa [World.setCell] using h.1, fun j hj => ?_⟩
  obtain ⟨⟨v, hv, e⟩, f⟩ := h.2 j hj
  by_cases c : k = j
  · subst c
    refine ⟨⟨zs[k], by simp [go_sem, hv], fun _ => rfl⟩, by simp [go_sem, f]⟩
  · exact ⟨⟨v, by simp [go_sem, hv], fun h => e (by omega)⟩, by simp [go_sem, f]⟩

set_option maxHeartbeats 400000 in
theorem clone_any (b off cap : Nat) (zs : List Int) (w : World) (hm : zs.length ≤ 1048576) (hI : Ints b off zs w) :
    Calls Try.prog 9 #[.slice (some ⟨b, off, none⟩) zs.length cap] w fun e w' => e = .returned (.slice (some ⟨w.heap.size, 0, none⟩) zs.length zs.length) ∧ Ints w.heap.size 0 zs w' ∧ Below w.heap.size w w' := by
  obtain ⟨i0, hi, hz0, hz1, hz2⟩ := info_parts info3
  have q22 : ∀ (w : World) (a : Option Addr) (n c n' c' : Nat), (binOp .eql 22 (.slice a n c) (.slice none n' c')).run Try.prog w = .ok (.bool a.isNone) w := fun w a n c n' c' => Lib.run_eql_slice_nil w _ _ a n c n' c' Try.underlying22
  go_enter Try.func9, Try.ntmps9
  go_wp2_with (at_make; refine wpList_make_full _ rfl _ _ 22 rfl w.heap.size 3 i0 (.int .i64 0) 1 Try.underlying22 hi hz0 hz1 _ _ _ _ zs.length rfl rfl rfl rfl (by rw [hz2]; omega) (by unfold maxLen; omega) (Nat.le_refl _) ?_; intro w1 hown hgrow)
  have hR : Copied w.heap.size 0 zs w1 := by
    refine ⟨(hown.lt _ rfl).2, fun j hj => ⟨⟨0, ?_, fun h => by omega⟩, hown.frozenAt j⟩⟩
    rw [hown.cellAt j (by omega), show (Value.int .i64 0).cells = #[Value.int .i64 0] from rfl, toList_madeCells_one]
    simp [hj]
  have hB : Below w.heap.size w w1 := (Below.refl _ _).grown hgrow (Nat.le_refl _) (by simp)
  clear hown hgrow
  go_loopw [4] (fun i wr => ∃ k : Nat, k ≤ zs.length ∧ i = .int .i64 k ∧ Copied w.heap.size k zs wr ∧ Below w.heap.size w wr) (fun i _ => zs.length - (intOf i).toNat)
  case atStart => exact ⟨0, Nat.zero_le _, rfl, hR, hB⟩
  case round =>
    obtain ⟨k, hk, rfl, hRr, hBr⟩ := hrel
    clear hR hB
    by_cases hlt : k < zs.length
    · have hcx := (hI.below hBr hI.1).2 k hlt
      have hN := hRr.put hlt
      obtain ⟨⟨v, hv, _⟩, hf⟩ := hRr.2 k hlt
      clear hRr
      generalize zs[k] = z at hcx hN
      go_wp2
      go_roundw
      case rel => exact ⟨k + 1, by omega, by go_num, hN, hBr.setCell (Nat.le_refl _) _⟩
      case measure => simp [intOf]; omega
    · go_wp2
      go_ret
      exact ⟨rfl, hRr.ints (by omega), hBr⟩

end Go.Proofs.Qxb6003310a.Mrg
