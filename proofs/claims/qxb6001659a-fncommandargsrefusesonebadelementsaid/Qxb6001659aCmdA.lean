/-
  THE WALKS of statement FnCommandArgsRefusesOneBadElement: the guards zzBytes (50), zzSimSmall (45), the clone (46).
-/
import Derived.Test.Qxb6001659aRows
import Derived.WalkKit
import Derived.WalkSpells
import Derived.WalkLawsBesides
namespace Go.Proofs.Qxb6001659a.Cmd
open Go.RowKit

theorem row_at {w : World} {a : Addr} {ss : List ByteArray} (h : ∀ i, i < ss.length → w.cell? (a.add i) = some (.string (ss.getD i ByteArray.empty))) (hp : 0 < ss.length) :
    ∃ b off, a = ⟨b, off, none⟩ ∧ ∀ j, j < ss.length → w.cell? ⟨b, off + j, none⟩ = some (.string (ss.getD j ByteArray.empty)) := by
  obtain ⟨b, off, spot⟩ := a
  have hspot : spot = none := by simpa [Addr.add] using World.cell?_spot (h 0 hp)
  subst hspot
  exact ⟨b, off, rfl, fun j hj => by rw [← Go.WideShapes.add_plain]; exact h j hj⟩

/-- A call that answers some bool; where it is true, p holds. -/
def SomeBool (p : Prop) (e : Ending) : Prop := ∃ r, e = .returned (.bool r) ∧ (r = true → p)
/-- The same with 'len ≤ 2^20'. -/
def LenBool (len : Nat) (e : Ending) : Prop := SomeBool (len ≤ 1048576) e
theorem SomeBool.no {p : Prop} : SomeBool p (.returned (.bool false)) := ⟨false, rfl, by simp⟩
theorem SomeBool.yes {p : Prop} (h : p) : SomeBool p (.returned (.bool true)) := ⟨true, rfl, fun _ => h⟩
theorem SomeBool.any (r : Bool) : SomeBool True (.returned (.bool r)) := ⟨r, rfl, fun _ => trivial⟩

set_option maxHeartbeats 400000 in
theorem bytes_none (a : Option Addr) (cap : Nat) (i t : Int) (n : Bool) (w : World) :
    Calls Try.prog 50 #[.slice a 0 cap, .int .i64 i, .int .u8 t, .bool n] w fun e w' => e = .returned (.bool true) ∧ w' = w := by
  go_enter Try.func50, Try.ntmps50
  go_wp2
  refine wp_loop_rounds 1 ?_
  rw [rounds_succ]
  go_wp2
  go_ret
  exact ⟨rfl, rfl⟩

set_option maxHeartbeats 400000 in
theorem small_none (a : Option Addr) (cap : Nat) (w : World) :
    Calls Try.prog 45 #[.slice a 0 cap] w fun e w' => e = .returned (.bool true) ∧ w' = w := by
  go_enter Try.func45, Try.ntmps45
  go_wp2
  refine wp_loop_rounds 1 ?_
  rw [rounds_succ]
  go_wp2
  go_ret
  exact ⟨rfl, rfl⟩

set_option maxHeartbeats 400000 in
theorem bytes_any (b off len cap : Nat) (ss : List ByteArray) (i t : Int) (n : Bool) (w : World) (hl : len ≤ ss.length) (hm : len ≤ maxLen)
    (hc : ∀ j, j < ss.length → w.cell? ⟨b, off + j, none⟩ = some (.string (ss.getD j ByteArray.empty))) :
    Calls Try.prog 50 #[.slice (some ⟨b, off, none⟩) len cap, .int .i64 i, .int .u8 t, .bool n] w fun e w' => LenBool len e ∧ w' = w := by
  unfold maxLen at hm
  by_cases hbig : 1048576 < len
  · go_enter Try.func50, Try.ntmps50
    go_wp2
    go_ret
    exact ⟨SomeBool.no, rfl⟩
  · have hle : len ≤ 1048576 := by omega
    go_enter Try.func50, Try.ntmps50
    go_wp2
    go_loop [9, 10] (fun z i => ∃ (k : Nat) (q : Int), k ≤ len ∧ i = .int .i64 k ∧ z = .int .i64 q ∧ 0 ≤ q ∧ q ≤ 1048576) (fun _ i => len - (intOf i).toNat)
    case atStart => exact ⟨0, len, Nat.zero_le _, rfl, by go_num, by omega, by omega⟩
    case round =>
      obtain ⟨k, q, hk, rfl, rfl, hq0, hq1⟩ := hrel
      by_cases hlt : k < len
      · have hcx := hc k (by omega)
        go_wp2
        · go_ret
          exact ⟨SomeBool.no, rfl⟩
        · go_ret
          exact ⟨SomeBool.no, rfl⟩
        · go_round
          case rel => exact ⟨k + 1, _, by omega, by go_num, rfl, by omega, by omega⟩
          case measure => simp [intOf]; omega
      · go_wp2
        go_ret
        exact ⟨SomeBool.yes hle, rfl⟩

set_option maxHeartbeats 400000 in
theorem small_any (b off len cap : Nat) (ss : List ByteArray) (w : World) (hl : len ≤ ss.length) (hm : len ≤ maxLen)
    (hc : ∀ j, j < ss.length → w.cell? ⟨b, off + j, none⟩ = some (.string (ss.getD j ByteArray.empty))) :
    Calls Try.prog 45 #[.slice (some ⟨b, off, none⟩) len cap] w fun e w' => SomeBool True e ∧ w' = w := by
  unfold maxLen at hm
  by_cases hbig : 65536 < len
  · go_enter Try.func45, Try.ntmps45
    go_wp2
    go_ret
    exact ⟨SomeBool.no, rfl⟩
  · have hle : len ≤ 65536 := by omega
    go_enter Try.func45, Try.ntmps45
    go_wp2
    go_loop [3, 4] (fun z i => ∃ (k : Nat) (q : Int), k ≤ len ∧ i = .int .i64 k ∧ z = .int .i64 q) (fun _ i => len - (intOf i).toNat)
    case atStart => exact ⟨0, _, Nat.zero_le _, rfl, rfl⟩
    case round =>
      obtain ⟨k, q, hk, rfl, rfl⟩ := hrel
      by_cases hlt : k < len
      · have hcx := hc k (by omega)
        go_wp2
        · go_ret
          exact ⟨SomeBool.no, rfl⟩
        · go_round
          case rel => exact ⟨k + 1, _, by omega, by go_num, rfl⟩
          case measure => simp [intOf]; omega
      · go_wp2
        go_ret
        exact ⟨SomeBool.any _, rfl⟩

theorem info9 : (Try.prog.info? 9).map (fun i => (i.zero, i.size, i.bytes)) = some (some (.string ByteArray.empty), 1, 16) := by kernel_rfl
theorem info65 : (Try.prog.info? 65).map (fun i => (i.zero, i.size, i.bytes)) = some (some (.agg #[.int .u8 0, .string ByteArray.empty, .int .i64 0, .slice none 0 0, .bool false]), 5, 64) := by kernel_rfl

/-- A row of the call's own that holds strings, whichever. -/
def StrRow (B len : Nat) (w : World) : Prop := ∃ ss : List ByteArray, w.ownsRow B 9 1 (.slice (some ⟨B, 0, none⟩) len len) len (ss.map Value.string)

theorem StrRow.cell {B len : Nat} {w : World} (h : StrRow B len w) (j : Nat) (hj : j < len) : ∃ s, w.cell? ⟨B, j, none⟩ = some (.string s) := by
  obtain ⟨ss, h⟩ := h
  have hl : ss.length = len := by simpa using h.1
  refine ⟨ss[j]'(by omega), ?_⟩
  rw [h.cellAt j (by omega)]
  simp [hl, hj]

theorem StrRow.frozen {B len : Nat} {w : World} (h : StrRow B len w) (j : Nat) : w.frozen? ⟨B, j, none⟩ = false := by
  obtain ⟨ss, h⟩ := h
  exact h.frozenAt j

theorem StrRow.made {B len : Nat} {w : World} (h : w.ownsRow B 9 1 (.slice (some ⟨B, 0, none⟩) len len) len (madeCells (Value.string ByteArray.empty).cells (len * 1)).toList) : StrRow B len w := by
  refine ⟨List.replicate len ByteArray.empty, ?_⟩
  have e : (madeCells (Value.string ByteArray.empty).cells (len * 1)).toList = (List.replicate len ByteArray.empty).map Value.string := by
    rw [Nat.mul_one, show (Value.string ByteArray.empty).cells = #[Value.string ByteArray.empty] from rfl, toList_madeCells_one, List.map_replicate]
  rw [← e]; exact h

theorem StrRow.stored {B len : Nat} {w : World} (h : StrRow B len w) (j : Nat) (s : ByteArray) : StrRow B len (w.setCell ⟨B, j, none⟩ (.string s)) := by
  obtain ⟨ss, h⟩ := h
  refine ⟨ss.set j s, ?_⟩
  have := (h.stored j (.string s)).1
  simpa [List.map_set] using this

theorem StrRow.below {B len : Nat} {w w' : World} (h : StrRow B len w) (hb : Below (B + 1) w w') : StrRow B len w' := by
  obtain ⟨ss, h1, h2⟩ := h
  refine ⟨ss, h1, ?_⟩
  rcases h2 with h2 | ⟨g, cap, cur, hv, hg, hh, r⟩
  · exact Or.inl h2
  · have : g = B := by simp at hv; exact hv.1.symm
    subst this
    exact Or.inr ⟨g, cap, cur, hv, hg, by rw [hb.block g (by omega)]; exact hh, r⟩

theorem StrRow.lt {B len : Nat} {w : World} (h : StrRow B len w) : B < w.heap.size := by
  obtain ⟨ss, h⟩ := h
  exact (h.lt B rfl).2

set_option maxHeartbeats 400000 in
theorem clone_any (b off len cap : Nat) (ss : List ByteArray) (w : World) (hl : len ≤ ss.length) (hm : len ≤ 1048576) (hb : b < w.heap.size)
    (hc : ∀ j, j < ss.length → w.cell? ⟨b, off + j, none⟩ = some (.string (ss.getD j ByteArray.empty))) :
    Calls Try.prog 46 #[.slice (some ⟨b, off, none⟩) len cap] w fun e w' => e = .returned (.slice (some ⟨w.heap.size, 0, none⟩) len len) ∧ StrRow w.heap.size len w' ∧ Below w.heap.size w w' := by
  obtain ⟨i0, hi, hz0, hz1, hz2⟩ := info_parts info9
  have q27 : ∀ (w : World) (a : Option Addr) (n c n' c' : Nat), (binOp .eql 27 (.slice a n c) (.slice none n' c')).run Try.prog w = .ok (.bool a.isNone) w := fun w a n c n' c' => Lib.run_eql_slice_nil w _ _ a n c n' c' Try.underlying27
  go_enter Try.func46, Try.ntmps46
  go_wp2_with (at_make; refine wpList_make_full _ rfl _ _ 27 rfl w.heap.size 9 i0 (.string ByteArray.empty) 1 Try.underlying27 hi hz0 hz1 _ _ _ _ len rfl rfl rfl rfl (by rw [hz2]; omega) (by unfold maxLen; omega) (Nat.le_refl _) ?_; intro w1 hown hgrow)
  have hR := StrRow.made hown
  have hB : Below w.heap.size w w1 := (Below.refl _ _).grown hgrow (Nat.le_refl _) (by simp)
  clear hown hgrow
  go_loopw [4] (fun i wr => ∃ k : Nat, k ≤ len ∧ i = .int .i64 k ∧ StrRow w.heap.size len wr ∧ Below w.heap.size w wr) (fun i _ => len - (intOf i).toNat)
  case atStart => exact ⟨0, Nat.zero_le _, rfl, hR, hB⟩
  case round =>
    obtain ⟨k, hk, rfl, hRr, hBr⟩ := hrel
    clear hR hB
    by_cases hlt : k < len
    · have hcx := (hBr.cell (p := ⟨b, off + k, none⟩) hb).trans (hc k (by omega))
      obtain ⟨s0, hs0⟩ := hRr.cell k hlt
      have hf := hRr.frozen k
      go_wp2
      go_roundw
      case rel => exact ⟨k + 1, by omega, by go_num, hRr.stored k _, hBr.setCell (Nat.le_refl _) _⟩
      case measure => simp [intOf]; omega
    · go_wp2
      go_ret
      exact ⟨rfl, hRr, hBr⟩
end Go.Proofs.Qxb6001659a.Cmd
