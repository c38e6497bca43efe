/-
  THE ROW OF SPANS, and slices.SortFunc (24) with the closure mergeSpans$1 (25) over it.
-/
import Derived.Test.Qxb6003310aLaid
import Derived.Test.Qxb6003310aProg
import Derived.WalkKit
import Derived.Below
namespace Go.Proofs.Qxb6003310a.Mrg
open Go.RowKit

/-- A span's two cells. -/
def encIv (x : Int × Int) : List Value := [.int .i64 x.1, .int .i64 x.2]

/-- The row at block g holds the spans l. -/
def Spans (g : Nat) (l : List (Int × Int)) (w : World) : Prop :=
  g < w.heap.size ∧ ∀ j (h : j < l.length), (w.cell? ⟨g, j * 2, none⟩ = some (.int .i64 l[j].1) ∧ w.frozen? ⟨g, j * 2, none⟩ = false) ∧ (w.cell? ⟨g, j * 2 + 1, none⟩ = some (.int .i64 l[j].2) ∧ w.frozen? ⟨g, j * 2 + 1, none⟩ = false)

theorem Spans.below {g : Nat} {l : List (Int × Int)} {w w' : World} (h : Spans g l w) (hb : Below (g + 1) w w') : Spans g l w' := by
  refine ⟨Nat.lt_of_lt_of_le h.1 hb.size, fun j hj => ?_⟩
  have c : ∀ o, w'.cell? ⟨g, o, none⟩ = w.cell? ⟨g, o, none⟩ := fun o => hb.cell (p := ⟨g, o, none⟩) (by show g < g + 1; omega)
  have f : ∀ o, w'.frozen? ⟨g, o, none⟩ = w.frozen? ⟨g, o, none⟩ := fun o => hb.frozen (p := ⟨g, o, none⟩) (by show g < g + 1; omega)
  rw [c, c, f, f]
  exact h.2 j hj

theorem Spans.holdsK {g : Nat} {l : List (Int × Int)} {w : World} (h : Spans g l w) : Sort.HoldsK encIv 2 w g 0 l.toArray := by
  intro t ht
  rw [Sort.size_flatK] at ht
  rw [Sort.get_flatK _ _ _ _ ht]
  have hl : t / 2 < l.length := by simp at ht; omega
  have e : l.toArray[t / 2]! = l[t / 2] := by
    rw [getElem!_pos l.toArray (t / 2) (by simpa using hl)]; simp
  rw [e, Nat.zero_add]
  rcases Nat.mod_two_eq_zero_or_one t with h0 | h0
  · have h1 : t / 2 * 2 = t := by omega
    rw [h0]
    have h2 := (h.2 (t / 2) hl).1
    rw [h1] at h2
    exact h2
  · have h1 : t / 2 * 2 + 1 = t := by omega
    rw [h0]
    have h2 := (h.2 (t / 2) hl).2
    rw [h1] at h2
    exact h2

theorem Spans.ofHoldsK {g : Nat} {d : Array (Int × Int)} {w : World} (h : Sort.HoldsK encIv 2 w g 0 d) (hg : g < w.heap.size) : Spans g d.toList w := by
  refine ⟨hg, fun j hj => ?_⟩
  have hj' : j < d.size := by simpa using hj
  have e : d[j]! = d.toList[j] := by rw [getElem!_pos d j hj']; simp
  have a := h.cell hj' (c := 0) (by omega)
  have b := h.cell hj' (c := 1) (by omega)
  rw [e] at a b
  simp only [Nat.zero_add, Nat.add_zero] at a b
  exact ⟨a, b⟩

theorem below_sortWorldK (g n : Nat) (d : Array (Int × Int)) (os : Array Obj) (w : World) (hg : g < w.heap.size) : Below g w (sortWorldK encIv 2 w g 0 n d os) := by
  refine ⟨rfl, rfl, rfl, size_sortWorldK_c encIv 2 w g 0 n d os, fun k hk => ?_⟩
  simp only [sortWorldK, Sort.grow, Sort.putRowK, Sort.putRow, Sort.mapBlock, Sort.ahead]
  rw [Array.getElem?_append_left (by simp; omega), Array.getElem?_modify, if_neg (by omega)]

theorem nan_any (x : Int) (w : World) : Calls Try.prog 29 #[.int .i64 x] w fun e w' => e = .returned (.bool false) ∧ w = w' := by
  go_enter Try.func29, Try.ntmps29
  go_wp2
  go_ret
  exact ⟨rfl, rfl⟩

set_option maxHeartbeats 400000 in
theorem cmp_any (x y : Int) (w : World) : Calls Try.prog 26 #[.int .i64 x, .int .i64 y] w fun e w' => e = .returned (.int .i64 (Lib.compareInt x y)) ∧ w = w' := by
  have n1 := nan_any x
  have n2 := nan_any y
  by_cases h1 : x < y
  · have e : Lib.compareInt x y = -1 := by simp [Lib.compareInt, h1]
    rw [e]
    clear e
    go_enter Try.func26, Try.ntmps26
    go_wp2_with (go_at_call 29; first | (refine (n1 _).mono ?_; rintro e w' ⟨rfl, rfl⟩) | (refine (n2 _).mono ?_; rintro e w' ⟨rfl, rfl⟩))
    go_ret
    exact ⟨rfl, rfl⟩
  · by_cases h2 : y < x
    · have e : Lib.compareInt x y = 1 := by simp [Lib.compareInt, h1, h2]
      rw [e]
      clear e
      go_enter Try.func26, Try.ntmps26
      go_wp2_with (go_at_call 29; first | (refine (n1 _).mono ?_; rintro e w' ⟨rfl, rfl⟩) | (refine (n2 _).mono ?_; rintro e w' ⟨rfl, rfl⟩))
      go_ret
      exact ⟨rfl, rfl⟩
    · have e : Lib.compareInt x y = 0 := by simp [Lib.compareInt, h1, h2]
      rw [e]
      clear e
      go_enter Try.func26, Try.ntmps26
      go_wp2_with (go_at_call 29; first | (refine (n1 _).mono ?_; rintro e w' ⟨rfl, rfl⟩) | (refine (n2 _).mono ?_; rintro e w' ⟨rfl, rfl⟩))
      go_ret
      exact ⟨rfl, rfl⟩

set_option maxHeartbeats 1000000 in
/-- THE CLOSURE: cmp.Compare(a.start, b.start): two blocks are laid. -/
theorem less_any (x y : Int × Int) (W : World) : Calls Try.prog 25 #[.agg #[.int .i64 x.1, .int .i64 x.2], .agg #[.int .i64 y.1, .int .i64 y.2]] W fun e w' => e = .returned (.int .i64 (Lib.compareInt x.1 y.1)) ∧ ∃ q os', w' = Sort.grow (W.drewN q) os' := by
  have hcon := fun W' => cmp_any x.1 y.1 W'
  generalize Lib.compareInt x.1 y.1 = r at hcon ⊢
  go_enter Try.func25, Try.ntmps25
  go_wp2_with (go_at_call 26; refine (hcon _).mono ?_; rintro e w' ⟨rfl, rfl⟩)
  go_ret
  exact ⟨rfl, 0, _, by rw [Sort.alloc_eq_grow, Sort.alloc_eq_grow, Sort.grow_grow]; rfl⟩

theorem ltLo (x y : Int × Int) : ltOf (fun x y : Int × Int => Lib.compareInt x.1 y.1) x y = decide (x.1 < y.1) := by
  unfold ltOf Lib.compareInt
  by_cases h1 : x.1 < y.1
  · simp [h1]
  · by_cases h2 : y.1 < x.1 <;> simp [h1, h2]

theorem swoLo : Sort.SWO (ltOf fun x y : Int × Int => Lib.compareInt x.1 y.1) where
  irrefl x := by rw [ltLo]; simp
  trans x y z h1 h2 := by rw [ltLo] at *; simp at *; omega
  ntrans x y z h1 h2 := by rw [ltLo] at *; simp at *; omega

theorem sort_any (g : Nat) (l : List (Int × Int)) (w : World) (hS : Spans g l w) (hn : l.length < 4611686018427387904) :
    Calls Try.prog 24 #[.slice (some ⟨g, 0, none⟩) l.length l.length, .func (.func 25) #[] #[]] w fun e w' => e = .returned (.tuple #[]) ∧ ∃ l', l'.Perm l ∧ l'.Pairwise (fun a b => a.1 ≤ b.1) ∧ Spans g l' w' ∧ Below g w w' := by
  have eg : ∀ args w, (callFunc 25 args).run Try.prog w = .ok (.enter 25 args) w := enters_of Try.func25 (by kernel_rfl) rfl
  have hH := hS.holdsK
  have hcon := AnyQ.slices_SortFunc sortIv 2 Try.isAgg30 Try.sizeOf30 encIv (fun _ => rfl) (fun x v hv => by simp [encIv] at hv; rcases hv with rfl | rfl <;> rfl) (fun x y => Lib.compareInt x.1 y.1) swoLo 25 #[] g 0 l.toArray.size l.toArray w eg (fun _ _ _ _ x y => less_any x y _) hH hS.1 (by simpa using hn)
  change Calls Try.prog 24 _ _ _ at hcon
  rw [show l.toArray.size = l.length by simp] at hcon
  refine hcon.mono ?_
  rintro e w' ⟨rfl, d', n, os, hp, hs, rfl⟩
  obtain ⟨hsz, _, hperm⟩ := hp
  have hsz' : d'.size = l.length := by simpa using hsz
  have hK := holdsK_sortWorldK_c encIv 2 w g 0 l.toArray d' n os hH hS.1 hsz
  refine ⟨rfl, d'.toList, ?_, ?_, Spans.ofHoldsK hK (Nat.lt_of_lt_of_le hS.1 (size_sortWorldK_c encIv 2 w g 0 n d' os)), below_sortWorldK _ _ _ _ _ hS.1⟩
  · have e1 : d'.extract 0 l.length = d' := by rw [← hsz']; simp
    rw [e1] at hperm
    simpa using hperm
  · rw [List.pairwise_iff_getElem]
    intro i j hi hj hij
    simp at hi hj
    have := hs i j (Nat.zero_le _) hij (by omega)
    rw [ltLo, getElem!_pos d' i hi, getElem!_pos d' j hj] at this
    simp at this
    simpa using this

theorem Spans.setEnd {g : Nat} {l : List (Int × Int)} {w : World} (h : Spans g l w) (j : Nat) (hj : j < l.length) (v : Int) : Spans g (l.set j (l[j].1, v)) (w.setCell ⟨g, j * 2 + 1, none⟩ (.int .i64 v)) := by
  refine ⟨by simpa [World.setCell] using h.1, fun k hk => ?_⟩
  have hk' : k < l.length := by simpa using hk
  obtain ⟨⟨a, b⟩, c, d⟩ := h.2 k hk'
  by_cases e : j = k
  · subst e
    simp [go_sem, a, b, c, d]
  · simp [go_sem, a, b, c, d, e]

theorem Spans.put {g : Nat} {l : List (Int × Int)} {w : World} (h : Spans g l w) (j : Nat) (v : Int × Int) : Spans g (l.set j v) ((w.setCell ⟨g, j * 2, none⟩ (.int .i64 v.1)).setCell ⟨g, j * 2 + 1, none⟩ (.int .i64 v.2)) := by
  refine ⟨by simpa [World.setCell] using h.1, fun k hk => ?_⟩
  have hk' : k < l.length := by simpa using hk
  obtain ⟨⟨a, b⟩, c, d⟩ := h.2 k hk'
  by_cases e : j = k
  · subst e
    simp [go_sem, a, b, c, d]
  · simp [go_sem, a, b, c, d, e]

end Go.Proofs.Qxb6003310a.Mrg
