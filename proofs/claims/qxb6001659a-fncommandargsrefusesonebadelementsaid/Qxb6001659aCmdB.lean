/-
  THE WALKS of statement FnCommandArgsRefusesOneBadElement: zzSimCommand (47), commandArgs (67), ZZcommandArgs (48).
-/
import Derived.Test.Qxb6001659aCmdA
namespace Go.Proofs.Qxb6001659a.Cmd
open Go.RowKit

/-- The value of a command: an array over the row at block g. -/
def cmdV (g len : Nat) : Value := .agg #[.int .u8 42, .string ByteArray.empty, .int .i64 0, .slice (some ⟨g, 0, none⟩) len len, .bool false]

/-- Element j of the row: type t, null n. -/
def Elem (xs : List Value) (j : Nat) (t : Int) (n : Bool) : Prop :=
  ∃ s, xs[j * 5]? = some (.int .u8 t) ∧ xs[j * 5 + 1]? = some (.string s) ∧ xs[j * 5 + 2]? = some (.int .i64 0) ∧ xs[j * 5 + 3]? = some (.slice none 0 0) ∧ xs[j * 5 + 4]? = some (.bool n)

/-- A row of the call's own that holds len elements of five cells each. -/
def Els (g len : Nat) (xs : List Value) (w : World) : Prop := w.ownsRow g 65 5 (.slice (some ⟨g, 0, none⟩) len len) len xs

theorem Els.cell {g len : Nat} {xs : List Value} {w : World} (h : Els g len xs w) (j : Nat) (hj : j < len * 5) : w.cell? ⟨g, j, none⟩ = some (xs[j]'(by rw [h.1]; exact hj)) := by
  rw [World.ownsRow.cellAt h j hj]; exact List.getElem?_eq_getElem _

theorem Els.frozen {g len : Nat} {xs : List Value} {w : World} (h : Els g len xs w) (j : Nat) : w.frozen? ⟨g, j, none⟩ = false := World.ownsRow.frozenAt h j

theorem Els.stored {g len : Nat} {xs : List Value} {w : World} (h : Els g len xs w) (j : Nat) (u : Value) : Els g len (xs.set j u) (w.setCell ⟨g, j, none⟩ u) := (World.ownsRow.stored h j u).1

theorem Els.below {g len : Nat} {xs : List Value} {w w' : World} (h : Els g len xs w) (hb : Below (g + 1) w w') : Els g len xs w' := by
  obtain ⟨h1, h2⟩ := h
  refine ⟨h1, ?_⟩
  rcases h2 with h2 | ⟨g', cap, cur, hv, hg, hh, r⟩
  · exact Or.inl h2
  · have : g' = g := by simp at hv; exact hv.1.symm
    subst this
    exact Or.inr ⟨g', cap, cur, hv, hg, by rw [hb.block g' (by omega)]; exact hh, r⟩

theorem Els.other {g len : Nat} {xs : List Value} {w : World} (h : Els g len xs w) {a : Addr} (ha : a.block < g) (u : Value) : Els g len xs (w.setCell a u) := ownsRow_setCell_below h ha u

theorem Els.lt {g len : Nat} {xs : List Value} {w : World} (h : Els g len xs w) : g < w.heap.size := (World.ownsRow.lt h g rfl).2


theorem Elem.put {xs : List Value} {len k : Nat} (s : ByteArray) (hl : xs.length = len * 5) (hk : k < len) (h : ∀ j, j < k → Elem xs j 36 false) :
    ∀ j, j < k + 1 → Elem (((((xs.set (k * 5) (.int .u8 36)).set (k * 5 + 1) (.string s)).set (k * 5 + 2) (.int .i64 0)).set (k * 5 + 3) (.slice none 0 0)).set (k * 5 + 4) (.bool false)) j 36 false := by
  intro j hj
  by_cases e : j = k
  · subst e
    refine ⟨s, ?_, ?_, ?_, ?_, ?_⟩ <;> simp [List.getElem?_set] <;> omega
  · obtain ⟨s', h0, h1, h2, h3, h4⟩ := h j (by omega)
    refine ⟨s', ?_, ?_, ?_, ?_, ?_⟩ <;> simp only [List.getElem?_set] <;> (repeat rw [if_neg (by omega)]) <;> assumption

def zeroCmd : Obj := .cells #[.int .u8 0, .string ByteArray.empty, .int .i64 0, .slice none 0 0, .bool false] 65

set_option maxHeartbeats 400000 in
theorem cmd_any (b len : Nat) (w : World) (hm : len ≤ 1048576) (hR : StrRow b len w) :
    Calls Try.prog 47 #[.slice (some ⟨b, 0, none⟩) len len, .int .i64 0] w fun e w' => e = .returned (cmdV (w.heap.size + 1) len) ∧ (∃ xs, Els (w.heap.size + 1) len xs w' ∧ ∀ j, j < len → Elem xs j 36 false) ∧ Below w.heap.size w w' := by
  obtain ⟨i0, hi, hz0, hz1, hz2⟩ := info_parts info65
  have hbl := hR.lt
  go_enter Try.func47, Try.ntmps47
  go_wp2_with (at_make; refine wpList_make_full _ rfl _ _ 63 rfl (w.heap.size + 1) 65 i0 _ 5 Try.underlying63 hi hz0 hz1 _ _ _ _ len rfl rfl rfl rfl (by rw [hz2]; omega) (by unfold maxLen; omega) (by simp) ?_; intro w1 hown hgrow)
  have hE : ∃ xs, Els (w.heap.size + 1) len xs w1 ∧ ∀ j, j < 0 → Elem xs j 36 false := ⟨_, by simpa [Els] using hown, by omega⟩
  have hB : Below (w.heap.size + 1) (w.alloc zeroCmd) w1 := (Below.refl _ _).grown hgrow (by simp) (by simp)
  clear hown hgrow
  go_loopw [6] (fun i wr => ∃ k : Nat, k ≤ len ∧ i = .int .i64 k ∧ (∃ xs, Els (w.heap.size + 1) len xs wr ∧ ∀ j, j < k → Elem xs j 36 false) ∧ Below (w.heap.size + 1) (w.alloc zeroCmd) wr) (fun i _ => len - (intOf i).toNat)
  case atStart => exact ⟨0, Nat.zero_le _, rfl, hE, hB⟩
  case round =>
    obtain ⟨k, hk, rfl, ⟨xs, hEr, hx⟩, hBr⟩ := hrel
    clear hE hB
    have hBw : Below w.heap.size w wr := ((Below.refl _ _).alloc (Nat.le_refl _) _).trans (hBr.mono (by omega))
    by_cases hlt : k < len
    · obtain ⟨s, hs⟩ := hR.cell k hlt
      have hcx := (hBw.cell (p := ⟨b, k, none⟩) hbl).trans hs
      clear hs
      have c0 := hEr.cell (k * 5) (by omega)
      have c1 := hEr.cell (k * 5 + 1) (by omega)
      have c2 := hEr.cell (k * 5 + 2) (by omega)
      have c3 := hEr.cell (k * 5 + 3) (by omega)
      have c4 := hEr.cell (k * 5 + 4) (by omega)
      have f0 := hEr.frozen (k * 5)
      have f1 := hEr.frozen (k * 5 + 1)
      have f2 := hEr.frozen (k * 5 + 2)
      have f3 := hEr.frozen (k * 5 + 3)
      have f4 := hEr.frozen (k * 5 + 4)
      have hlen : xs.length = len * 5 := hEr.1
      have HX : Hid (∀ j, j < k → Elem xs j 36 false) := hx
      clear hx
      go_wp2
      go_roundw
      case rel =>
        exact ⟨k + 1, by omega, by go_num, ⟨_, ((((hEr.stored _ _).stored _ _).stored _ _).stored _ _).stored _ _, Elem.put s hlen hlt HX.out⟩,
          ((((hBr.setCell (Nat.le_refl _) _).setCell (Nat.le_refl _) _).setCell (Nat.le_refl _) _).setCell (Nat.le_refl _) _).setCell (Nat.le_refl _) _⟩
      case measure => simp [intOf]; omega
    · have hkl : k = len := by omega
      subst hkl
      have c : ∀ j, wr.cell? ⟨w.heap.size, j, none⟩ = (w.alloc zeroCmd).cell? ⟨w.heap.size, j, none⟩ := fun j => hBr.cell (p := ⟨w.heap.size, j, none⟩) (by simp)
      have f : ∀ j, wr.frozen? ⟨w.heap.size, j, none⟩ = (w.alloc zeroCmd).frozen? ⟨w.heap.size, j, none⟩ := fun j => hBr.frozen (p := ⟨w.heap.size, j, none⟩) (by simp)
      have c0 : wr.cell? ⟨w.heap.size, 0, none⟩ = some (.int .u8 0) := by rw [c]; simp [zeroCmd]
      have c1 : wr.cell? ⟨w.heap.size, 1, none⟩ = some (.string ByteArray.empty) := by rw [c]; simp [zeroCmd]
      have c2 : wr.cell? ⟨w.heap.size, 2, none⟩ = some (.int .i64 0) := by rw [c]; simp [zeroCmd]
      have c3 : wr.cell? ⟨w.heap.size, 3, none⟩ = some (.slice none 0 0) := by rw [c]; simp [zeroCmd]
      have c4 : wr.cell? ⟨w.heap.size, 4, none⟩ = some (.bool false) := by rw [c]; simp [zeroCmd]
      have f0 : wr.frozen? ⟨w.heap.size, 0, none⟩ = false := by rw [f]; simp [zeroCmd]
      have f1 : wr.frozen? ⟨w.heap.size, 1, none⟩ = false := by rw [f]; simp [zeroCmd]
      have f2 : wr.frozen? ⟨w.heap.size, 2, none⟩ = false := by rw [f]; simp [zeroCmd]
      have f3 : wr.frozen? ⟨w.heap.size, 3, none⟩ = false := by rw [f]; simp [zeroCmd]
      have f4 : wr.frozen? ⟨w.heap.size, 4, none⟩ = false := by rw [f]; simp [zeroCmd]
      clear c f
      go_wp2
      refine bodyPost_ret (v := cmdV (w.heap.size + 1) k) (by simp [results, Try.results47, go_sem, c0, c1, c2, c3, c4, cmdV]; rfl) rfl ⟨rfl, ⟨xs, ?_, hx⟩, ?_⟩
      · exact ((((hEr.other (by simp) _).other (by simp) _).other (by simp) _).other (by simp) _).other (by simp) _
      · exact ((((hBw.setCell (by simp) _).setCell (by simp) _).setCell (by simp) _).setCell (by simp) _).setCell (by simp) _

/-- THE REFUSAL: element 'i' is bad, all ahead of it are good. -/
def Bad (len i : Nat) (t : Int) (n : Bool) (xs : List Value) : Prop := i < len ∧ (∀ j, j < i → Elem xs j 36 false) ∧ Elem xs i t n ∧ (t = 36 → n = true)

set_option maxHeartbeats 400000 in
theorem args_any (g len i : Nat) (t : Int) (n : Bool) (xs : List Value) (w : World) (hm : len ≤ 1048576) (ht : 0 ≤ t ∧ t ≤ 255) (hE : Els g len xs w) (hbad : Bad len i t n xs) :
    Calls Try.prog 67 #[cmdV g len] w fun e w' => e = .returned (.tuple #[.slice none 0 0, .bool false]) ∧ Below w.heap.size w w' := by
  obtain ⟨i0, hi, hz0, hz1, hz2⟩ := info_parts info9
  obtain ⟨hil, hgood, hel, htn⟩ := hbad
  have hgl := hE.lt
  have hl0 : ((len : Int) == 0) = false := by simp; omega
  unfold cmdV
  go_enter Try.func67, Try.ntmps67
  go_wp2_with (at_make; refine wpList_make_own _ rfl _ _ 27 rfl (w.heap.size + 1) 9 i0 (.string ByteArray.empty) 1 Try.underlying27 hi hz0 hz1 _ _ _ len rfl rfl rfl (by rw [hz2]; omega) (by unfold maxLen; omega) (by simp) ?_; intro w1 hown hgrow; have hcl : w1.cell? ⟨w.heap.size, 3, none⟩ = some (.slice (some ⟨g, 0, none⟩) len len) := hgrow.cell (by simp) (by simp))
  have hB : Below w.heap.size w w1 := ((Below.refl _ _).alloc (Nat.le_refl _) _).grown hgrow (by simp) (by simp)
  have hsz : w.heap.size + 1 < w1.heap.size := (hown.lt _ (by simp [Value.ownBlock])).2
  have hO : ∃ ys, w1.ownsRow (w.heap.size + 1) 9 1 (.slice (some ⟨w.heap.size + 1, 0, none⟩) 0 len) 0 ys := ⟨[], by simpa using hown⟩
  clear hown hgrow hcl
  go_loopw [4, 23] (fun v c wr => ∃ k : Nat, k ≤ i ∧ c = .int .i64 k ∧ v = .slice (some ⟨w.heap.size + 1, 0, none⟩) k len ∧ (∃ ys, wr.ownsRow (w.heap.size + 1) 9 1 (.slice (some ⟨w.heap.size + 1, 0, none⟩) k len) k ys) ∧ Below w.heap.size w wr) (fun _ c _ => len - (intOf c).toNat)
  case atStart => exact ⟨0, Nat.zero_le _, rfl, rfl, hO, hB⟩
  case round =>
    obtain ⟨k, hk, rfl, rfl, ⟨ys, hown⟩, hBr⟩ := hrel
    clear hO hB hsz
    have hEr : Els g len xs wr := hE.below (hBr.mono (by omega))
    by_cases hlt : k < i
    · obtain ⟨s, e0, e1, e2, e3, e4⟩ := hgood k hlt
      have c0 := (World.ownsRow.cellAt hEr (k * 5) (by omega)).trans e0
      have c1 := (World.ownsRow.cellAt hEr (k * 5 + 1) (by omega)).trans e1
      have c2 := (World.ownsRow.cellAt hEr (k * 5 + 2) (by omega)).trans e2
      have c3 := (World.ownsRow.cellAt hEr (k * 5 + 3) (by omega)).trans e3
      have c4 := (World.ownsRow.cellAt hEr (k * 5 + 4) (by omega)).trans e4
      clear e0 e1 e2 e3 e4 hgood hel
      have hgs := (World.ownsRow.lt hown _ rfl).2
      go_wp2_with (at_builtin; refine wpList_append_fits _ rfl _ _ 27 rfl (w.heap.size + 1) 9 i0 1 Try.underlying27 hi hz1 (w.heap.size + 1) k len ys rfl ((hown.alloc _).alloc _) ⟨wr.heap.size + 1, 0, none⟩ 1 1 [.string s] rfl rfl ?_ ?_ (by omega) ?_)
      · rfl
      · intro w2 hown2 hgrow2
        have hs0 := hBr.size
        have hB2 : Below w.heap.size w w2 := ((hBr.alloc hs0 _).alloc (by simp; omega) _).grown hgrow2 (by simp; omega) (by simp)
        clear hgrow2 hown
        go_wp2
        go_roundw
        case rel => exact ⟨k + 1, by omega, by go_num, rfl, ⟨_, hown2⟩, hB2⟩
        case measure => simp [intOf]; omega
    · have hki : k = i := by omega
      subst hki
      obtain ⟨s, e0, e1, e2, e3, e4⟩ := hel
      have c0 := (World.ownsRow.cellAt hEr (k * 5) (by omega)).trans e0
      have c1 := (World.ownsRow.cellAt hEr (k * 5 + 1) (by omega)).trans e1
      have c2 := (World.ownsRow.cellAt hEr (k * 5 + 2) (by omega)).trans e2
      have c3 := (World.ownsRow.cellAt hEr (k * 5 + 3) (by omega)).trans e3
      have c4 := (World.ownsRow.cellAt hEr (k * 5 + 4) (by omega)).trans e4
      clear e0 e1 e2 e3 e4 hgood
      by_cases h36 : t = 36
      · have hn := htn h36
        subst h36 hn
        go_wp2
        go_ret2
        exact ⟨rfl, (hBr.alloc (hBr.size) _)⟩
      · have h36' : (t != 36) = true := by simpa using h36
        go_wp2
        go_ret2
        exact ⟨rfl, (hBr.alloc (hBr.size) _)⟩

set_option maxHeartbeats 400000 in
theorem zzargs_any (g len i : Nat) (t : Int) (n : Bool) (xs : List Value) (w : World) (hm : len ≤ 1048576) (ht : 0 ≤ t ∧ t ≤ 255) (hE : Els g len xs w) (hbad : Bad len i t n xs) :
    Calls Try.prog 48 #[cmdV g len] w fun e w' => e = .returned (.tuple #[.slice none 0 0, .bool false]) ∧ Below w.heap.size w w' := by
  have hgl := hE.lt
  have hc : ∀ v, (w.alloc v).heap.size = w.heap.size + 1 := fun v => by simp
  have H := fun v => args_any g len i t n xs (w.alloc v) hm ht (hE.below ((Below.refl _ _).alloc (by omega) _)) hbad
  unfold cmdV at *
  go_enter Try.func48, Try.ntmps48
  go_wp2_with fail
  refine (H _).mono ?_
  rintro e w' ⟨rfl, hb⟩
  clear H
  have hb' : Below w.heap.size w w' := ((Below.refl _ _).alloc (Nat.le_refl _) _).trans (hb.mono (by simp))
  go_wp2
  go_ret2
  exact ⟨rfl, hb'⟩

theorem Els.setEl {g len i : Nat} {xs : List Value} {w : World} (h : Els g len xs w) (hi : i < len) (hx : ∀ j, j < len → Elem xs j 36 false) (t : Int) (n : Bool) (htn : t = 36 → n = true) :
    Bad len i t n ((xs.set (i * 5) (.int .u8 t)).set (i * 5 + 4) (.bool n)) := by
  have hl : xs.length = len * 5 := h.1
  refine ⟨hi, fun j hj => ?_, ?_, htn⟩
  · obtain ⟨s', h0, h1, h2, h3, h4⟩ := hx j (by omega)
    refine ⟨s', ?_, ?_, ?_, ?_, ?_⟩ <;> simp only [List.getElem?_set] <;> (repeat rw [if_neg (by omega)]) <;> assumption
  · obtain ⟨s', h0, h1, h2, h3, h4⟩ := hx i hi
    refine ⟨s', ?_, ?_, ?_, ?_, ?_⟩
    · simp [List.getElem?_set]; omega
    · simp only [List.getElem?_set]; (repeat rw [if_neg (by omega)]); assumption
    · simp only [List.getElem?_set]; (repeat rw [if_neg (by omega)]); assumption
    · simp only [List.getElem?_set]; (repeat rw [if_neg (by omega)]); assumption
    · simp [List.getElem?_set]; omega

set_option maxHeartbeats 400000 in
theorem law_any (b off len cap : Nat) (ss : List ByteArray) (i t : Int) (n : Bool) (w : World) (hl : len ≤ ss.length) (hm : len ≤ maxLen) (hb : b < w.heap.size) (ht : 0 ≤ t ∧ t ≤ 255)
    (hc : ∀ j, j < ss.length → w.cell? ⟨b, off + j, none⟩ = some (.string (ss.getD j ByteArray.empty))) :
    Calls Try.prog 11 #[.slice (some ⟨b, off, none⟩) len cap, .int .i64 i, .int .u8 t, .bool n] w fun e w' => e = .returned (.bool true) ∧ Below w.heap.size w w' := by
  have H1 := bytes_any b off len cap ss i t n w hl hm hc
  have H2 := small_any b off len cap ss w hl hm hc
  go_enter Try.func11, Try.ntmps11
  go_wp2_with fail
  refine H1.mono ?_
  rintro e w' ⟨⟨r, rfl, hr⟩, hw⟩
  subst hw
  clear H1
  by_cases hr1 : r = true
  · subst hr1
    have hle := hr rfl
    go_wp2_with fail
    refine H2.mono ?_
    rintro e w' ⟨⟨r, rfl, _⟩, hw⟩
    subst hw
    clear H2
    by_cases hr2 : r = true
    · subst hr2
      by_cases hi0 : i < 0
      · go_wp2
        go_ret
        exact ⟨rfl, Below.refl _ _⟩
      by_cases hil : (len : Int) ≤ i
      · have hi0' : decide (i < 0) = false := by simpa using hi0
        go_wp2
        go_ret
        exact ⟨rfl, Below.refl _ _⟩
      obtain ⟨k, hk⟩ : ∃ k : Nat, i = (k : Int) := ⟨i.toNat, by omega⟩
      subst hk
      have hkl : k < len := by omega
      by_cases hbad : t = 36 ∧ n = false
      · obtain ⟨rfl, rfl⟩ := hbad
        go_wp2
        go_ret
        exact ⟨rfl, Below.refl _ _⟩
      have hcase : (t = 36 ∧ n = true) ∨ ((t == 36) = false ∧ ¬ t = 36) := by
        by_cases e : t = 36
        · exact .inl ⟨e, by cases n; exact absurd ⟨e, rfl⟩ hbad; rfl⟩
        · exact .inr ⟨by simpa using e, e⟩
      clear hbad hr hi0 hil
      have hk0 : (0 : Int) ≤ (k : Int) := by omega
      have hkl' : (k : Int) < (len : Int) := by omega
      have q27 : ∀ (w : World) (a : Option Addr) (n c n' c' : Nat), (binOp .eql 27 (.slice a n c) (.slice none n' c')).run Try.prog w = .ok (.bool a.isNone) w := fun w a n c n' c' => Lib.run_eql_slice_nil w _ _ a n c n' c' Try.underlying27
      rcases hcase with ⟨rfl, rfl⟩ | ⟨h36, h36'⟩
      all_goals
        go_wp2_with fail
        refine (clone_any b off len cap ss _ hl hle hb hc).mono ?_
        rintro e w1 ⟨rfl, hR, hB1⟩
        go_wp2_with fail
        refine (cmd_any _ len _ hle hR).mono ?_
        rintro e w2 ⟨rfl, ⟨xs, hE, hX⟩, hB2⟩
        have hEl := hE.lt
        unfold cmdV
        have d0 := hE.cell (k * 5) (by omega)
        have d4 := hE.cell (k * 5 + 4) (by omega)
        have f0 := hE.frozen (k * 5)
        have f4 := hE.frozen (k * 5 + 4)
        go_wp2_with fail
        refine (zzargs_any (w1.heap.size + 1) len k _ _ _ _ hle (by exact ht) (((hE.stored _ _).stored _ _).below ((Below.refl _ _).alloc (by simp; omega) _)) (hE.setEl hkl hX _ _ (by first | exact fun _ => rfl | exact fun h => absurd h h36'))).mono ?_
        rintro e w3 ⟨rfl, hB3⟩
        have hs1 := hB1.size
        have hs2 := hB2.size
        have hB : Below w'.heap.size w' w3 := ((((hB1.trans (hB2.mono hs1)).setCell (by simp; omega) _).setCell (by simp; omega) _).alloc (by simp; omega) _).trans (hB3.mono (by simp; omega))
        clear hB1 hB2 hB3 hE hX hR d0 d4 f0 f4 hc
        go_wp2
        go_ret
        exact ⟨rfl, hB⟩
    · have hr2' : r = false := by simpa using hr2
      subst hr2'
      go_wp2
      go_ret
      exact ⟨rfl, Below.refl _ _⟩
  · have hr1' : r = false := by simpa using hr1
    subst hr1'
    go_wp2
    go_ret
    exact ⟨rfl, Below.refl _ _⟩

set_option maxHeartbeats 400000 in
theorem law_none (a : Option Addr) (cap : Nat) (i t : Int) (n : Bool) (w : World) :
    Calls Try.prog 11 #[.slice a 0 cap, .int .i64 i, .int .u8 t, .bool n] w fun e w' => e = .returned (.bool true) ∧ Below w.heap.size w w' := by
  have H1 := bytes_none a cap i t n w
  have H2 := small_none a cap w
  go_enter Try.func11, Try.ntmps11
  go_wp2_with fail
  refine H1.mono ?_
  rintro e w' ⟨rfl, hw⟩
  subst hw
  clear H1
  go_wp2_with fail
  refine H2.mono ?_
  rintro e w' ⟨rfl, hw⟩
  subst hw
  clear H2
  by_cases hi0 : i < 0
  · go_wp2
    go_ret
    exact ⟨rfl, Below.refl _ _⟩
  · have hi0' : decide (i < 0) = false := by simpa using hi0
    go_wp2
    go_ret
    exact ⟨rfl, Below.refl _ _⟩
end Go.Proofs.Qxb6001659a.Cmd
