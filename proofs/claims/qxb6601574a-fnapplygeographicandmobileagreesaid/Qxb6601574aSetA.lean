/-
  THE WALKS of 'FnApplyGeographicAndMobileAgree': zzBytes (15), zzTooBig (9), zzClone (10), zzSet (11).
-/
import Derived.Test.Qxb6601574aRows
import Derived.WalkKit
import Derived.WalkSpells
import Derived.WalkLawsBesides
import Derived.Maps.OwnSet
namespace Go.Proofs.Qxb6601574a.App
open Go.RowKit Go.Maps Go.WideMaps

/-- A slice of strings, nil or not: where it has an element its cells hold strings. -/
def Strs (a : Option Addr) (len : Nat) (w : World) : Prop :=
  0 < len → ∃ b off, a = some ⟨b, off, none⟩ ∧ b < w.heap.size ∧ ∀ j, j < len → ∃ s : ByteArray, s.size ≤ maxLen ∧ w.cell? ⟨b, off + j, none⟩ = some (.string s)

theorem Strs.below {a : Option Addr} {len : Nat} {w w' : World} (h : Strs a len w) (hb : Below w.heap.size w w') : Strs a len w' := by
  intro h0
  obtain ⟨b, off, ha, hlt, hc⟩ := h h0
  refine ⟨b, off, ha, Nat.lt_of_lt_of_le hlt hb.size, fun j hj => ?_⟩
  obtain ⟨s, hs, hcell⟩ := hc j hj
  exact ⟨s, hs, (hb.cell (p := ⟨b, off + j, none⟩) hlt).trans hcell⟩

/-- A call that answers some bool; where it is true, both lengths are small. -/
def LenBool (l1 l2 : Nat) (e : Ending) : Prop := ∃ r, e = .returned (.bool r) ∧ (r = true → l1 ≤ 1048576 ∧ l2 ≤ 1048576)
theorem LenBool.no {l1 l2 : Nat} : LenBool l1 l2 (.returned (.bool false)) := ⟨false, rfl, by simp⟩
theorem LenBool.yes {l1 l2 : Nat} (h1 : l1 ≤ 1048576) (h2 : l2 ≤ 1048576) : LenBool l1 l2 (.returned (.bool true)) := ⟨true, rfl, fun _ => ⟨h1, h2⟩⟩
def Any (e : Ending) : Prop := ∃ r, e = .returned (.bool r)

set_option maxHeartbeats 2000000 in
theorem bytes_any (x y : ByteArray) (a1 : Option Addr) (l1 c1 : Nat) (n1 : Bool) (a2 : Option Addr) (l2 c2 : Nat) (n2 : Bool) (w : World) (hx : x.size ≤ maxLen) (hy : y.size ≤ maxLen) (h1 : l1 ≤ maxLen) (h2 : l2 ≤ maxLen)
    (s1 : Strs a1 l1 w) (s2 : Strs a2 l2 w) :
    Calls Try.prog 15 #[.string x, .string y, .slice a1 l1 c1, .bool n1, .slice a2 l2 c2, .bool n2] w fun e w' => LenBool l1 l2 e ∧ w = w' := by
  unfold maxLen at hx hy h1 h2
  go_enter Try.func15, Try.ntmps15
  go_wp2
  all_goals try (go_ret; exact ⟨LenBool.no, rfl⟩)
  go_loop [13, 14] (fun z i => ∃ (k : Nat) (q : Int), k ≤ l1 ∧ i = .int .i64 k ∧ z = .int .i64 q ∧ 0 ≤ q ∧ q ≤ 1048576) (fun _ i => l1 - (intOf i).toNat)
  case atStart => exact ⟨0, _, Nat.zero_le _, rfl, rfl, by omega, by omega⟩
  case round =>
    obtain ⟨k, q, hk, rfl, rfl, hq0, hq1⟩ := hrel
    by_cases hlt : k < l1
    · obtain ⟨b, off, rfl, hb, hc⟩ := s1 (by omega)
      obtain ⟨s, hs, hcx⟩ := hc k hlt
      unfold maxLen at hs
      clear hc
      go_wp2
      · go_ret
        exact ⟨LenBool.no, rfl⟩
      · go_ret
        exact ⟨LenBool.no, rfl⟩
      · go_round
        case rel => exact ⟨k + 1, _, by omega, by go_num, rfl, by omega, by omega⟩
        case measure => simp [intOf]; omega
    · go_wp2
      all_goals try (go_ret; exact ⟨LenBool.no, rfl⟩)
      go_loop [13, 15] (fun z i => ∃ (k : Nat) (q : Int), k ≤ l2 ∧ i = .int .i64 k ∧ z = .int .i64 q ∧ 0 ≤ q ∧ q ≤ 1048576) (fun _ i => l2 - (intOf i).toNat)
      case atStart => exact ⟨0, _, Nat.zero_le _, rfl, rfl, by omega, by omega⟩
      case round =>
        obtain ⟨k2, q2, hk2, rfl, rfl, hq20, hq21⟩ := hrel
        by_cases hlt2 : k2 < l2
        · obtain ⟨b, off, rfl, hb, hc⟩ := s2 (by omega)
          obtain ⟨s, hs, hcx⟩ := hc k2 hlt2
          unfold maxLen at hs
          clear hc
          go_wp2
          · go_ret
            exact ⟨LenBool.no, rfl⟩
          · go_ret
            exact ⟨LenBool.no, rfl⟩
          · go_round
            case rel => exact ⟨k2 + 1, _, by omega, by go_num, rfl, by omega, by omega⟩
            case measure => simp [intOf]; omega
        · go_wp2
          go_ret
          exact ⟨LenBool.yes (by omega) (by omega), rfl⟩

set_option maxHeartbeats 2000000 in
theorem big_any (x y : ByteArray) (a1 : Option Addr) (l1 c1 : Nat) (a2 : Option Addr) (l2 c2 : Nat) (w : World) (hx : x.size ≤ maxLen) (hy : y.size ≤ maxLen) (h1 : l1 ≤ 1048576) (h2 : l2 ≤ 1048576)
    (s1 : Strs a1 l1 w) (s2 : Strs a2 l2 w) :
    Calls Try.prog 9 #[.string ⟨#[]⟩, .string x, .string y, .slice a1 l1 c1, .slice a2 l2 c2] w fun e w' => Any e ∧ w = w' := by
  unfold maxLen at hx hy
  go_enter Try.func9, Try.ntmps9
  go_wp2
  all_goals try (go_ret; exact ⟨⟨_, rfl⟩, rfl⟩)
  go_loop [11, 12] (fun z i => ∃ (k : Nat) (q : Int), k ≤ l1 ∧ i = .int .i64 k ∧ z = .int .i64 q) (fun _ i => l1 - (intOf i).toNat)
  case atStart => exact ⟨0, _, Nat.zero_le _, rfl, rfl⟩
  case round =>
    obtain ⟨k, q, hk, rfl, rfl⟩ := hrel
    by_cases hlt : k < l1
    · obtain ⟨b, off, rfl, hb, hc⟩ := s1 (by omega)
      obtain ⟨s, hs, hcx⟩ := hc k hlt
      unfold maxLen at hs
      clear hc
      go_wp2
      · go_ret
        exact ⟨⟨_, rfl⟩, rfl⟩
      · go_ret
        exact ⟨⟨_, rfl⟩, rfl⟩
      · go_round
        case rel => exact ⟨k + 1, _, by omega, by go_num, rfl⟩
        case measure => simp [intOf]; omega
    · go_wp2
      go_loop [11, 13] (fun z i => ∃ (k : Nat) (q : Int), k ≤ l2 ∧ i = .int .i64 k ∧ z = .int .i64 q) (fun _ i => l2 - (intOf i).toNat)
      case atStart => exact ⟨0, _, Nat.zero_le _, rfl, rfl⟩
      case round =>
        obtain ⟨k2, q2, hk2, rfl, rfl⟩ := hrel
        by_cases hlt2 : k2 < l2
        · obtain ⟨b, off, rfl, hb, hc⟩ := s2 (by omega)
          obtain ⟨s, hs, hcx⟩ := hc k2 hlt2
          unfold maxLen at hs
          clear hc
          go_wp2
          · go_ret
            exact ⟨⟨_, rfl⟩, rfl⟩
          · go_ret
            exact ⟨⟨_, rfl⟩, rfl⟩
          · go_round
            case rel => exact ⟨k2 + 1, _, by omega, by go_num, rfl⟩
            case measure => simp [intOf]; omega
        · go_wp2
          go_ret
          exact ⟨⟨_, rfl⟩, rfl⟩

theorem info9 : (Try.prog.info? 9).map (fun i => (i.zero, i.size, i.bytes)) = some (some (.string ByteArray.empty), 1, 16) := by kernel_rfl

/-- A row of the call's own that holds strings, whichever. -/
def StrRow (B len : Nat) (w : World) : Prop := ∃ ss : List ByteArray, (∀ s ∈ ss, s.size ≤ maxLen) ∧ w.ownsRow B 9 1 (.slice (some ⟨B, 0, none⟩) len len) len (ss.map Value.string)

theorem StrRow.cell {B len : Nat} {w : World} (h : StrRow B len w) (j : Nat) (hj : j < len) : ∃ s : ByteArray, s.size ≤ maxLen ∧ w.cell? ⟨B, j, none⟩ = some (.string s) := by
  obtain ⟨ss, hm, h⟩ := h
  have hl : ss.length = len := by simpa using h.1
  refine ⟨ss[j]'(by omega), hm _ (List.getElem_mem _), ?_⟩
  rw [h.cellAt j (by omega)]
  simp [hl, hj]

theorem StrRow.frozen {B len : Nat} {w : World} (h : StrRow B len w) (j : Nat) : w.frozen? ⟨B, j, none⟩ = false := by
  obtain ⟨ss, _, h⟩ := h
  exact h.frozenAt j

theorem StrRow.made {B len : Nat} {w : World} (h : w.ownsRow B 9 1 (.slice (some ⟨B, 0, none⟩) len len) len (madeCells (Value.string ByteArray.empty).cells (len * 1)).toList) : StrRow B len w := by
  refine ⟨List.replicate len ByteArray.empty, ?_, ?_⟩
  · intro s hs
    rw [(List.mem_replicate.1 hs).2]
    exact Nat.zero_le _
  · have e : (madeCells (Value.string ByteArray.empty).cells (len * 1)).toList = (List.replicate len ByteArray.empty).map Value.string := by
      rw [Nat.mul_one, show (Value.string ByteArray.empty).cells = #[Value.string ByteArray.empty] from rfl, toList_madeCells_one, List.map_replicate]
    rw [← e]; exact h

theorem StrRow.stored {B len : Nat} {w : World} (h : StrRow B len w) (j : Nat) (s : ByteArray) (hs : s.size ≤ maxLen) : StrRow B len (w.setCell ⟨B, j, none⟩ (.string s)) := by
  obtain ⟨ss, hm, h⟩ := h
  refine ⟨ss.set j s, fun t ht => ?_, ?_⟩
  · rcases List.mem_or_eq_of_mem_set ht with h1 | h1
    · exact hm t h1
    · rw [h1]; exact hs
  · have := (h.stored j (.string s)).1
    simpa [List.map_set] using this

theorem StrRow.strs {B len : Nat} {w : World} (h : StrRow B len w) : Strs (some ⟨B, 0, none⟩) len w := by
  intro _
  have hlt : B < w.heap.size := by
    obtain ⟨ss, _, h⟩ := h
    exact (h.lt B rfl).2
  refine ⟨B, 0, rfl, hlt, fun j hj => ?_⟩
  rw [Nat.zero_add]
  exact h.cell j hj

def ClonePost (len : Nat) (w : World) (e : Ending) (w' : World) : Prop := ∃ a c, e = .returned (.slice a len c) ∧ Strs a len w' ∧ Below w.heap.size w w'

set_option maxHeartbeats 1000000 in
theorem clone_any (a : Option Addr) (len cap : Nat) (w : World) (hm : len ≤ 1048576) (hS : Strs a len w) :
    Calls Try.prog 10 #[.slice a len cap] w fun e w' => ClonePost len w e w' := by
  obtain ⟨i0, hi, hz0, hz1, hz2⟩ := info_parts info9
  have q22 : ∀ (w : World) (a : Option Addr) (n c n' c' : Nat), (binOp .eql 22 (.slice a n c) (.slice none n' c')).run Try.prog w = .ok (.bool a.isNone) w := fun w a n c n' c' => Lib.run_eql_slice_nil w _ _ a n c n' c' Try.underlying22
  cases a with
  | none =>
    have hl : len = 0 := by
      rcases Nat.eq_zero_or_pos len with h | h
      · exact h
      · obtain ⟨b, off, h1, _⟩ := hS h
        cases h1
    subst hl
    go_enter Try.func10, Try.ntmps10
    go_wp2
    go_ret
    exact ⟨none, 0, rfl, fun h => absurd h (Nat.lt_irrefl 0), Below.refl _ _⟩
  | some x =>
    go_enter Try.func10, Try.ntmps10
    go_wp2_with (at_make; refine wpList_make_full _ rfl _ _ 22 rfl w.heap.size 9 i0 (.string ByteArray.empty) 1 Try.underlying22 hi hz0 hz1 _ _ _ _ len rfl rfl rfl rfl (by rw [hz2]; omega) (by unfold maxLen; omega) (Nat.le_refl _) ?_; intro w1 hown hgrow)
    have hR := StrRow.made hown
    have hB : Below w.heap.size w w1 := (Below.refl _ _).grown hgrow (Nat.le_refl _) (by simp)
    clear hown hgrow
    go_loopw [4] (fun i wr => ∃ k : Nat, k ≤ len ∧ i = .int .i64 k ∧ StrRow w.heap.size len wr ∧ Below w.heap.size w wr) (fun i _ => len - (intOf i).toNat)
    case atStart => exact ⟨0, Nat.zero_le _, rfl, hR, hB⟩
    case round =>
      obtain ⟨k, hk, rfl, hRr, hBr⟩ := hrel
      clear hR hB
      by_cases hlt : k < len
      · obtain ⟨b, off, hx, hb, hc⟩ := hS (by omega)
        cases hx
        obtain ⟨s, hs, hcc⟩ := hc k hlt
        have hcx := (hBr.cell (p := ⟨b, off + k, none⟩) hb).trans hcc
        obtain ⟨s0, _, hs0⟩ := hRr.cell k hlt
        have hf := hRr.frozen k
        clear hc hcc
        go_wp2
        go_roundw
        case rel => exact ⟨k + 1, by omega, by go_num, hRr.stored k _ hs, hBr.setCell (Nat.le_refl _) _⟩
        case measure => simp [intOf]; omega
      · go_wp2
        go_ret
        exact ⟨_, _, rfl, hRr.strs, hBr⟩

/-- WHAT A SET ANSWERS: the look-ups of m, in every later world. -/
def Looks (m : Value) (look : ByteArray → Bool) (w : World) : Prop :=
  ∀ w', Below w.heap.size w w' → ∀ s : ByteArray, s.size ≤ maxLen → (Instr.lookup 27 m (.string s) true).run Try.prog w' = .ok (.tuple #[.agg #[], .bool (look s)]) w'

theorem Looks.below {m : Value} {look : ByteArray → Bool} {w w' : World} (h : Looks m look w) (hb : Below w.heap.size w w') : Looks m look w' :=
  fun w2 h2 s hs => h w2 (hb.trans (h2.mono hb.size)) s hs

theorem law9 : Keyed Try.prog 9 := string_keyed Try.underlying9
theorem zero38 (w : World) : (zeroValue 38).run Try.prog w = .ok (.agg #[]) w := by kernel_rfl

theorem Looks.nil (w : World) : Looks (.map none) (fun _ => false) w := by
  intro w' _ s hs
  have := Maps.look_nil (w := w') true law9 Try.underlying27 (zero38 w') (keyOf_string_mk Try.underlying9 hs)
  simpa using this

theorem Looks.own {B n : Nat} {D : DataW Unit} {w : World} (h : w.ownsMap Try.prog 9 (unitElem (H := Unit)) B n D) : ∃ look, Looks (.map (some B)) look w := by
  refine ⟨fun s => Maps.has D (.string s.data.toList), fun w' hb s hs => ?_⟩
  have hlt := h.lt
  have h' : w'.ownsMap Try.prog 9 (unitElem (H := Unit)) B n D := by
    obtain ⟨es, clock, hb1, r⟩ := h
    exact ⟨es, clock, by rw [hb.block B hlt]; exact hb1, r⟩
  obtain ⟨v, ps, hrun, hv⟩ := h'.look_ok law9 Try.underlying27 (zero38 w') unitElem_mk (keyOf_string_mk Try.underlying9 hs)
  rw [(unitElem_inv hv).1] at hrun
  exact hrun

def SetPost (w : World) (e : Ending) (w' : World) : Prop := ∃ (m : Option Nat) (look : ByteArray → Bool), e = .returned (.map m) ∧ Looks (.map m) look w' ∧ Below w.heap.size w w'

theorem run_makeMap_hint (n : Nat) (w : World) : (Instr.makeMap 27 (some (.int .i64 (n : Int)))).run Try.prog w = .ok (.map (some w.heap.size)) (w.alloc (.map #[] 0)) := by
  simp [Instr.makeMap, run_underlying Try.underlying27]
  rfl

set_option maxHeartbeats 1000000 in
theorem set_any (a : Option Addr) (len cap : Nat) (nl : Bool) (w : World) (hm : len ≤ 1048576) (hS : Strs a len w) :
    Calls Try.prog 11 #[.slice a len cap, .bool nl] w fun e w' => SetPost w e w' := by
  cases nl with
  | true =>
    go_enter Try.func11, Try.ntmps11
    go_wp2
    go_ret
    exact ⟨_, _, rfl, Looks.nil w, Below.refl _ _⟩
  | false =>
    have hmm := run_makeMap_hint len
    go_enter Try.func11, Try.ntmps11
    go_wp2
    go_loopw [6] (fun i wr => ∃ (k : Nat) (D : DataW Unit), k ≤ len ∧ i = .int .i64 k ∧ wr.ownsMap Try.prog 9 (unitElem (H := Unit)) w.heap.size k D ∧ Below w.heap.size w wr) (fun i _ => len - (intOf i).toNat)
    case atStart => exact ⟨0, _, Nat.zero_le _, rfl, World.ownsMap_made _ _ _ _, (Below.refl _ _).alloc (Nat.le_refl _) _⟩
    case round =>
      obtain ⟨k, D, hk, rfl, hown, hBr⟩ := hrel
      by_cases hlt : k < len
      · obtain ⟨b, off, hx, hb, hc⟩ := hS (by omega)
        subst hx
        obtain ⟨s, hs, hcc⟩ := hc k hlt
        have hcx := (hBr.cell (p := ⟨b, off + k, none⟩) hb).trans hcc
        obtain ⟨w2, hst, hown2, hturn⟩ := hown.store law9 Try.underlying27 (by unfold maxLen; omega) (keyOf_string_mk Try.underlying9 hs) (val := .agg #[]) unitElem_mk
        have hB2 : Below w.heap.size w w2 := hBr.grown hturn.grown hBr.size (fun q hq => by cases hq; exact Nat.le_refl _)
        clear hc hcc hown hturn hmm
        go_wp2
        go_roundw
        case rel => exact ⟨k + 1, _, by omega, by go_num, hown2, hB2⟩
        case measure => simp [intOf]; omega
      · go_wp2
        go_ret
        obtain ⟨look, hl⟩ := Looks.own hown
        exact ⟨_, look, rfl, hl, hBr⟩
end Go.Proofs.Qxb6601574a.App
