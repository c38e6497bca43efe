/-
  THE WALK of FnMergeSpansCoverExactly (3).
-/
import Derived.Test.Qxb6003310aMerge
namespace Go.Proofs.Qxb6003310a.Mrg
open Go.RowKit

theorem Ints.alloc {b off : Nat} {zs : List Int} {w : World} (h : Ints b off zs w) (o : Obj) : Ints b off zs (w.alloc o) := h.below ((Below.refl _ _).alloc (Nat.le_refl _) o) h.1
theorem Spans.alloc {g : Nat} {l : List (Int × Int)} {w : World} (h : Spans g l w) (o : Obj) : Spans g l (w.alloc o) := h.below ((Below.refl _ _).alloc h.1 o)

set_option maxHeartbeats 1000000 in
theorem law_no (a0 : Option Addr) (l0 c0 : Nat) (a1 : Option Addr) (l1 c1 : Nat) (w : World) (h0 : l0 ≤ maxLen) (h1 : l1 ≤ maxLen) (h : l0 < 1 ∨ 64 < l0 ∨ l1 ≠ l0) :
    Calls Try.prog 3 #[.slice a0 l0 c0, .slice a1 l1 c1] w fun e w' => e = .returned (.bool true) ∧ Below w.heap.size w w' := by
  have H7 := bytes_any a0 l0 c0 a1 l1 c1 w h0 h1
  have H8 := fit_no a0 l0 c0 a1 l1 c1 w h0 h1 h
  clear h
  unfold maxLen at h0 h1
  go_enter Try.func3, Try.ntmps3
  go_wp2_with fail
  refine H7.mono ?_
  rintro e w' ⟨⟨r, rfl⟩, rfl⟩
  clear H7
  cases r
  · go_wp2_with fail
    go_ret
    exact ⟨rfl, Below.refl _ _⟩
  · by_cases t0 : 65536 < l0
    · go_wp2_with fail
      go_ret
      exact ⟨rfl, Below.refl _ _⟩
    · by_cases t1 : 65536 < l1
      · go_wp2_with fail
        go_ret
        exact ⟨rfl, Below.refl _ _⟩
      · go_wp2_with fail
        refine H8.mono ?_
        rintro e w' ⟨rfl, rfl⟩
        clear H8
        go_wp2_with fail
        go_ret
        exact ⟨rfl, Below.refl _ _⟩

/-- What the two loops of the law lean on. -/
structure Ready (g0 g1 g : Nat) (S E : List Int) (M : List (Int × Int)) (w : World) : Prop where
  hS : Ints g0 0 S w
  hE : Ints g1 0 E w
  hM : Spans g M w

theorem Ready.below {g0 g1 g : Nat} {S E : List Int} {M : List (Int × Int)} {w w' : World} (h : Ready g0 g1 g S E M w) (hb : Below w.heap.size w w') : Ready g0 g1 g S E M w' :=
  ⟨h.hS.below hb h.hS.1, h.hE.below hb h.hE.1, h.hM.below (hb.mono h.hM.1)⟩

theorem Fit.ok {S E : List Int} (h : Fit S.length S E) (hE : E.length = S.length) : ∀ x ∈ S.zip E, x.1 ≤ x.2 := by
  intro x hx
  obtain ⟨i, hi, rfl⟩ := List.getElem_of_mem hx
  have hi' : i < S.length := by simp at hi; omega
  rw [List.getElem_zip]
  exact (h i hi' (by omega) hi').2.1

theorem mem_starts {S E : List Int} {M : List (Int × Int)} (h : Merged (S.zip E) M) {x : Int × Int} (hx : x ∈ M) : x.1 ∈ S := by
  obtain ⟨y, hy, e⟩ := h.starts x hx
  rw [← e]
  exact (List.of_mem_zip hy).1

theorem mem_ends {S E : List Int} {M : List (Int × Int)} (h : Merged (S.zip E) M) {x : Int × Int} (hx : x ∈ M) : x.2 ∈ E := by
  obtain ⟨y, hy, e⟩ := h.ends x hx
  rw [← e]
  exact (List.of_mem_zip hy).2

set_option maxHeartbeats 2000000 in
theorem law_any (b0 o0 c0 b1 o1 c1 : Nat) (S E : List Int) (w : World) (h1 : 1 ≤ S.length) (h64 : S.length ≤ 64) (hE : E.length = S.length) (hS : Ints b0 o0 S w) (hI : Ints b1 o1 E w) :
    Calls Try.prog 3 #[.slice (some ⟨b0, o0, none⟩) S.length c0, .slice (some ⟨b1, o1, none⟩) S.length c1] w fun e w' => e = .returned (.bool true) ∧ Below w.heap.size w w' := by
  have H7 := bytes_any (some ⟨b0, o0, none⟩) S.length c0 (some ⟨b1, o1, none⟩) S.length c1 w (by unfold maxLen; omega) (by unfold maxLen; omega)
  have H8 := fit_any b0 o0 c0 b1 o1 c1 S E w h1 h64 hE hS hI
  have hlen : (S.zip E).length = S.length := by simp [hE]
  have HZ : Hid ((S.zip E).length = S.length) := hlen
  have HEl : Hid (E.length = S.length) := hE
  clear hlen
  have H9E : ∀ w', Ints b1 o1 E w' → Calls Try.prog 9 #[.slice (some ⟨b1, o1, none⟩) S.length c1] w' fun e w'' => e = .returned (.slice (some ⟨w'.heap.size, 0, none⟩) S.length S.length) ∧ Ints w'.heap.size 0 E w'' ∧ Below w'.heap.size w' w'' := fun w' h => by
    have := clone_any b1 o1 c1 E w' (by omega) h
    rw [hE] at this
    exact this
  clear hE
  go_enter Try.func3, Try.ntmps3
  go_wp2_with fail
  refine H7.mono ?_
  rintro e w' ⟨⟨r, rfl⟩, rfl⟩
  clear H7
  cases r
  · clear H8 H9E
    go_wp2_with fail
    go_ret
    exact ⟨rfl, Below.refl _ _⟩
  · go_wp2_with fail
    refine H8.mono ?_
    clear H8
    rintro e w1 ⟨hP, hB1⟩
    rcases hP with rfl | ⟨rfl, hF⟩
    · clear H9E
      go_wp2_with fail
      go_ret
      exact ⟨rfl, hB1⟩
    · have hS1 := hS.below hB1 hS.1
      have hI1 := hI.below hB1 hI.1
      have HF : Hid (Fit S.length S E) := hF
      clear hF
      go_wp2_with fail
      refine (clone_any b0 o0 c0 S w1 (by omega) hS1).mono ?_
      rintro e w2 ⟨rfl, hS2, hB2⟩
      have hI2 := hI1.below hB2 hI1.1
      go_wp2_with fail
      refine (H9E w2 hI2).mono ?_
      rintro e w3 ⟨rfl, hI3, hB3⟩
      have hS3 := hS2.below hB3 hS2.1
      clear H9E
      go_wp2_with fail
      refine (build_any w1.heap.size _ w2.heap.size _ S E w3 h64 HEl.out hS3 hI3).mono ?_
      rintro e w4 ⟨rfl, hD4, hB4⟩
      have HM := zzmerge_any w3.heap.size (S.zip E) w4 (by rw [HZ.out]; exact h1) (by rw [HZ.out]; exact h64) (HF.out.ok HEl.out) hD4
      rw [HZ.out] at HM
      go_wp2_with fail
      refine HM.mono ?_
      clear HM
      rintro e w5 ⟨M, rfl, hMM, hM5, hB5⟩
      have hR : Ready w1.heap.size w2.heap.size w3.heap.size S E M w5 := ⟨(hS3.below hB4 hS3.1).below hB5 hS3.1, (hI3.below hB4 hI3.1).below hB5 hI3.1, hM5⟩
      have s1 := hB1.size
      have s2 := hB2.size
      have s3 := hB3.size
      have hB : Below w.heap.size w w5 := (((hB1.trans (hB2.mono s1)).trans (hB3.mono (by omega))).trans (hB4.mono (by omega))).trans (hB5.mono (by omega))
      have hl1 := hMM.pos
      have hl2 : M.length ≤ S.length := by have := hMM.le; rw [HZ.out] at this; exact this
      have HMM : Hid (Merged (S.zip E) M) := hMM
      have HsS : ∀ w' v, Ints w1.heap.size 0 S w' → v ∈ S → Calls Try.prog 14 #[.slice (some ⟨w1.heap.size, 0, none⟩) S.length S.length, .int .i64 v] w' fun e w'' => e = .returned (.bool true) ∧ w' = w'' := fun w' v h hv => some_any _ 0 _ S v w' (by omega) h hv
      have HsE : ∀ w' v, Ints w2.heap.size 0 E w' → v ∈ E → Calls Try.prog 14 #[.slice (some ⟨w2.heap.size, 0, none⟩) S.length S.length, .int .i64 v] w' fun e w'' => e = .returned (.bool true) ∧ w' = w'' := fun w' v h hv => by
        have := some_any w2.heap.size 0 S.length E v w' (by rw [HEl.out]; omega) h hv
        rw [HEl.out] at this
        exact this
      clear hMM hM5 hB5 hB4 hB3 hB2 hB1 hD4 hS3 hI3 hS2 hI2 hS1 hI1 s1 s2 s3 hS hI HF
      generalize w1.heap.size = g0 at hR HsS ⊢
      generalize w2.heap.size = g1 at hR HsE ⊢
      generalize w3.heap.size = g at hR ⊢
      have q1 : decide (S.length < M.length) = false := decide_eq_false (by omega)
      have q2 : decide ((M.length : Int) < 1) = false := decide_eq_false (by omega)
      have q3 : decide ((65536 : Int) < (S.length : Int)) = false := decide_eq_false (by omega)
      go_wp2_with fail
      try simp only [q1, q2, q3, Bool.false_or, Bool.or_false]
      clear q1 q2 q3
      go_loopw [6] (fun i wr => ∃ k : Nat, k ≤ M.length ∧ i = .int .i64 k ∧ Ready g0 g1 g S E M wr ∧ Below w.heap.size w wr) (fun i _ => M.length - (intOf i).toNat)
      case atStart => exact ⟨0, Nat.zero_le _, rfl, hR, hB⟩
      case round =>
        obtain ⟨k, hk, rfl, hRr, hBr⟩ := hrel
        clear hR hB
        by_cases hlt : k < M.length
        · obtain ⟨⟨p0, _⟩, p1, _⟩ := hRr.hM.2 k hlt
          have hv := HMM.out.ok _ (List.getElem_mem hlt)
          have hs := mem_starts HMM.out (List.getElem_mem hlt)
          have he := mem_ends HMM.out (List.getElem_mem hlt)
          have hsz := hBr.size
          have hgr := hRr.hM.1
          rcases Nat.eq_zero_or_pos k with hk0 | hk0
          · have hk0' : ¬ (0 < k) := by omega
            clear hk0
            generalize M[k].1 = s at p0 hv hs
            generalize M[k].2 = f at p1 hv he
            go_wp2_with (first | (go_at_call 12; refine (start_eq _ _ _).mono ?_; rintro e w2 ⟨rfl, rfl⟩) | (go_at_call 13; refine (end_eq _ _ _).mono ?_; rintro e w2 ⟨rfl, rfl⟩))
            refine (HsS _ _ ((hRr.hS.alloc _).alloc _) hs).mono ?_
            rintro e w2 ⟨rfl, rfl⟩
            go_wp2_with fail
            refine (HsE _ _ ((hRr.hE.alloc _).alloc _) he).mono ?_
            rintro e w2 ⟨rfl, rfl⟩
            go_wp2_with fail
            go_roundw
            case rel => exact ⟨k + 1, by omega, by go_num, ⟨(hRr.hS.alloc _).alloc _, (hRr.hE.alloc _).alloc _, (hRr.hM.alloc _).alloc _⟩, (hBr.alloc hsz _).alloc (by simp; omega) _⟩
            case measure => simp [intOf]; omega
          · obtain ⟨q, rfl⟩ : ∃ q, k = q + 1 := ⟨k - 1, by omega⟩
            obtain ⟨⟨r0, _⟩, r1, _⟩ := hRr.hM.2 q (by omega)
            have hg := HMM.out.gap q hlt
            generalize M[q + 1].1 = s at p0 hv hs hg
            generalize M[q + 1].2 = f at p1 hv he
            generalize (M[q]'(by omega)).1 = y at r0
            generalize (M[q]'(by omega)).2 = z at r1 hg
            go_wp2_with (first | (go_at_call 12; refine (start_eq _ _ _).mono ?_; rintro e w2 ⟨rfl, rfl⟩) | (go_at_call 13; refine (end_eq _ _ _).mono ?_; rintro e w2 ⟨rfl, rfl⟩))
            refine (HsS _ _ (((hRr.hS.alloc _).alloc _).alloc _) hs).mono ?_
            rintro e w2 ⟨rfl, rfl⟩
            go_wp2_with fail
            refine (HsE _ _ (((hRr.hE.alloc _).alloc _).alloc _) he).mono ?_
            rintro e w2 ⟨rfl, rfl⟩
            go_wp2_with fail
            go_roundw
            case rel => exact ⟨q + 2, by omega, by go_num, ⟨((hRr.hS.alloc _).alloc _).alloc _, ((hRr.hE.alloc _).alloc _).alloc _, ((hRr.hM.alloc _).alloc _).alloc _⟩, ((hBr.alloc hsz _).alloc (by simp; omega) _).alloc (by simp; omega) _⟩
            case measure => simp [intOf]; omega
        · have hkl : k = M.length := by omega
          subst hkl
          clear HsS HsE
          go_wp2
          go_loopw [9] (fun i wx => ∃ k : Nat, k ≤ 4097 ∧ i = .int .i64 k ∧ Ready g0 g1 g S E M wx ∧ Below w.heap.size w wx) (fun i _ => 4097 - (intOf i).toNat)
          case atStart => exact ⟨0, Nat.zero_le _, rfl, hRr, hBr⟩
          case round =>
            clear hRr hBr
            obtain ⟨x, hx, rfl, hRx, hBx⟩ := hrel
            by_cases hlx : x < 4097
            · have Hin := in_any g0 S.length g1 S.length S E (x : Int) (covB (S.zip E) x) _ (by omega) HEl.out hRx.hS hRx.hE rfl
              have Hout := out_any g S.length M (x : Int) (covB (S.zip E) x) _ (by omega) hRx.hM (covB_same _ (HMM.out.cov _)).symm
              generalize covB (S.zip E) (x : Int) = c at Hin Hout
              go_wp2_with (first | (go_at_call 15; refine Hin.mono ?_; rintro e w2 ⟨rfl, rfl⟩) | (go_at_call 16; refine Hout.mono ?_; rintro e w2 ⟨rfl, hb⟩))
              go_roundw
              case rel => exact ⟨x + 1, by omega, by go_num, hRx.below hb, hBx.trans (hb.mono hBx.size)⟩
              case measure => simp [intOf]; omega
            · go_wp2
              go_ret
              exact ⟨rfl, hBx⟩

end Go.Proofs.Qxb6003310a.Mrg
