/-
  SplitArgs (17) REFUSES: a line whose first quote stands at p, and whose quote reader there answers -1, or an end behind which a byte stands that is no white space.
-/
import Derived.Test.Qxb6001659aQuoB
import Derived.Deep.LoopGhost
namespace Go.Proofs.Qxb6001659a.Quo
open Go.RowKit

theorem info9 : (Try.prog.info? 9).map (fun i => (i.zero, i.size, i.bytes)) = some (some (.string ByteArray.empty), 1, 16) := by kernel_rfl

/-- The arguments gathered so far: a row of the call's own with at most k strings. -/
def ArgRow (B k : Nat) (v : Value) (w : World) : Prop := ∃ n ys, w.ownsRow B 9 1 v n ys ∧ n ≤ k

theorem ArgRow.kept {B k b : Nat} {v : Value} {w w' : World} {cs : Array Value} {fr : Nat × Nat} (h : ArgRow B k v w) (ho : Lib.OthersKept 5 (some b) w w') (hb : w.heap[b]? = some (.cells cs 74 fr)) : ArgRow B k v w' := by
  obtain ⟨n, ys, ⟨h1, h2⟩, hn⟩ := h
  refine ⟨n, ys, ⟨h1, ?_⟩, hn⟩
  rcases h2 with h2 | ⟨g, cap, cur, hv, hg, hh, r⟩
  · exact Or.inl h2
  · refine Or.inr ⟨g, cap, cur, hv, hg, ho g _ hh ?_ ?_, r⟩
    · intro e
      have : g = b := by simpa using e
      subst this
      rw [hh] at hb
      simp at hb
    · intro c fz e
      simp at e

theorem ArgRow.alloc {B k : Nat} {v : Value} {w : World} (h : ArgRow B k v w) (o : Obj) : ArgRow B k v (w.alloc o) := by
  obtain ⟨n, ys, h1, h2⟩ := h
  exact ⟨n, ys, h1.alloc o, h2⟩

/-- A builder's block. -/
theorem isB_block {B b : Nat} {bs : List Value} {w : World} (h : Lib.IsBuilderF 74 5 B b bs w) : ∃ cs, w.heap[b]? = some (.cells cs 74 (0, 0)) := by
  rcases h with h | h
  · obtain ⟨_, v, hbk, _⟩ := h; exact ⟨_, hbk⟩
  · obtain ⟨_, v, hbk, _⟩ := h; exact ⟨_, hbk⟩

/-- The word that is being read: the builder in block b holds the bytes l. -/
def Word (b k : Nat) (w : World) : Prop := ∃ l : List UInt8, Lib.IsBuilderF 74 5 b b (Lib.byteCells l) w ∧ l.length ≤ k

theorem Word.start (w : World) (k : Nat) : Word w.heap.size k (w.alloc (.cells #[.pointer none, .slice none 0 0] 74)) :=
  ⟨[], .of (Lib.fresh_isBuilder 74 5 w), by simp⟩

theorem Word.bd {b k m : Nat} {w : World} (h : Word b k w) (hm : k ≤ m) : Bd b b m w := by
  obtain ⟨l, h1, h2⟩ := h
  exact ⟨_, h1, by rw [Lib.byteCells_length]; omega⟩

theorem write_word (B0 b k n : Nat) (v : Value) (x : UInt8) (c : Int) (hx : (x.toNat : Int) = c) (w : World) (h : Word b k w) (ha : ArgRow B0 n v w) (hk : k < 1000000) (hBw : b ≤ w.heap.size) :
    Calls Try.prog 58 #[.pointer (some ⟨b, 0, none⟩), .int .u8 c] w fun e w' => e = .returned .nilIface ∧ Word b (k + 1) w' ∧ ArgRow B0 n v w' ∧ Below b w w' := by
  subst hx
  obtain ⟨l, h1, h2⟩ := h
  obtain ⟨cs, hcs⟩ := isB_block h1
  refine (Bld.write_any b b _ _ w h1 (by rw [Lib.byteCells_length]; omega) hBw).mono ?_
  rintro e w' ⟨rfl, h3, h4, h5⟩
  exact ⟨rfl, ⟨l ++ [x], .inr (by simpa [Lib.byteCells] using h3), by simp; omega⟩, ha.kept h5 hcs, h4⟩

theorem string_word (B0 b k n : Nat) (v : Value) (w : World) (h : Word b k w) (ha : ArgRow B0 n v w) (hBw : b ≤ w.heap.size) :
    Calls Try.prog 59 #[.pointer (some ⟨b, 0, none⟩)] w fun e w' => (∃ s, e = .returned (.string s)) ∧ ArgRow B0 n v w' ∧ Below b w w' := by
  obtain ⟨l, h1, h2⟩ := h
  obtain ⟨cs, hcs⟩ := isB_block h1
  refine (Bld.string_any b b l w h1 hBw).mono ?_
  rintro e w' ⟨rfl, h3, h4, h5⟩
  exact ⟨⟨_, rfl⟩, ha.kept h5 hcs, h4⟩

/-- What the line must be. -/
structure Refused (line : ByteArray) (p : Nat) (r : Int) : Prop where
  lt : p < line.size
  before : ∀ j, j < p → bt line j ≠ 34 ∧ bt line j ≠ 39
  reads : (bt line p = 34 ∧ ∀ (B b : Nat) (W : World), B ≤ W.heap.size → Bd B b 1000000 W → Calls Try.prog 56 #[.string (line.extract (p + 1) line.size), .pointer (some ⟨b, 0, none⟩)] W fun e w' => e = .returned (.int .i64 r) ∧ Below B W w') ∨
    (bt line p = 39 ∧ ∀ (B b : Nat) (W : World), B ≤ W.heap.size → Bd B b 1000000 W → Calls Try.prog 57 #[.string (line.extract (p + 1) line.size), .pointer (some ⟨b, 0, none⟩)] W fun e w' => e = .returned (.int .i64 r) ∧ Below B W w')
  ends : r = -1 ∨ ∃ m : Nat, r = m ∧ p + 1 + m < line.size ∧ spB (bt line (p + 1 + m)) = false

set_option maxHeartbeats 4000000 in
set_option maxRecDepth 100000 in
theorem split_refuses (line : ByteArray) (p : Nat) (r : Int) (w : World) (hs : line.size ≤ 999999) (H : Refused line p r) :
    Calls Try.prog 17 #[.string line] w fun e w' => e = .returned (.tuple #[.slice none 0 0, .bool false]) ∧ Below w.heap.size w w' := by
  have hpl := H.lt
  have hpsp : spB (bt line p) = false := by
    rcases H.reads with ⟨h, _⟩ | ⟨h, _⟩ <;> rw [h] <;> decide
  obtain ⟨i0, hi, hz0, hz1, hz2⟩ := info_parts info9
  go_enter Try.func17, Try.ntmps17
  go_wp2
  go_loopg [4, 5] (p + 1) (fun g v i wr => ∃ k : Nat, k ≤ p ∧ i = .int .i64 k ∧ g + k = p + 1 ∧ ArgRow w.heap.size k v wr ∧ Below w.heap.size w wr)
  case atStart => exact ⟨0, Nat.zero_le _, rfl, by omega, ⟨0, [], World.ownsRow_nil _ _ _ _, Nat.le_refl _⟩, Below.refl _ _⟩
  case round =>
    obtain ⟨k, hk, rfl, hg, hA, hB⟩ := hrel
    have hBs := hB.size
    obtain ⟨wo, hwo⟩ : ∃ x, x = wr := ⟨_, rfl⟩
    subst hwo
    obtain ⟨ko, hko⟩ : ∃ x, x = gk := ⟨_, rfl⟩
    subst hko
    go_wp2
    go_loop [5] (fun i => ∃ j : Nat, k ≤ j ∧ j ≤ p ∧ i = .int .i64 j) (fun i => p + 1 - (intOf i).toNat)
    case atStart => exact ⟨k, Nat.le_refl _, hk, rfl⟩
    case round =>
      obtain ⟨j, hkj, hjp, rfl⟩ := hrel
      have hjl : j < line.size := by omega
      have ej := bt_eq line j hjl
      cases hsp : spB (bt line j)
      · -- a word begins at j
        have hsp' : spB ((line[j]'hjl).toNat : Int) = false := by rw [ej]; exact hsp
        have hjl' : ((j : Int) == (line.size : Int)) = false := by simp; omega
        go_wp2_with (go_at_call 55; refine (space_any _ _).mono ?_; rintro e w1 ⟨rfl, rfl⟩)
        go_loopg [5] (p + 1 - j) (fun g i w3 => ∃ m : Nat, j ≤ m ∧ m ≤ p ∧ i = .int .i64 m ∧ g + m = p + 1 ∧ Word wo.heap.size m w3 ∧ ArgRow w.heap.size k u4 w3 ∧ Below w.heap.size w w3 ∧ wo.heap.size < w3.heap.size)
        case atStart => exact ⟨j, Nat.le_refl _, hjp, rfl, by omega, Word.start wo j, hA.alloc _, hB.alloc hBs _, by simp⟩
        case round =>
          clear hA hB hsp' ej
          obtain ⟨m, hjm, hmp, rfl, hg3, hW, hA, hB, hz⟩ := hrel
          have hml : m < line.size := by omega
          have em := bt_eq line m hml
          cases hspm : spB (bt line m)
          · -- no white space at m
            by_cases hpm : m = p
            · -- the quote
              subst hpm
              have hbd := hW.bd (m := 1000000) (by omega)
              rcases H.reads with ⟨hq, HQ⟩ | ⟨hq, HQ⟩
              · rcases H.ends with rfl | ⟨m', rfl, hm1, hm2⟩
                · go_wp2_with (first | (go_at_call 55; refine (space_any _ _).mono ?_; rintro e w1 ⟨rfl, rfl⟩) | (go_at_call 56; refine (HQ wo.heap.size wo.heap.size _ (by omega) hbd).mono ?_; rintro e w1 ⟨rfl, hB1⟩))
                  go_ret2
                  exact ⟨rfl, hB.trans (hB1.mono hBs)⟩
                · have en := bt_eq line (m + 1 + m') hm1
                  have x1 : (m : Int) + (1 + (m' : Int)) = ((m + 1 + m' : Nat) : Int) := by omega
                  go_wp2_with (first | (go_at_call 55; refine (space_any _ _).mono ?_; rintro e w1 ⟨rfl, rfl⟩) | (go_at_call 56; refine (HQ wo.heap.size wo.heap.size _ (by omega) hbd).mono ?_; rintro e w1 ⟨rfl, hB1⟩))
                  go_ret2
                  exact ⟨rfl, hB.trans (hB1.mono hBs)⟩
              · rcases H.ends with rfl | ⟨m', rfl, hm1, hm2⟩
                · go_wp2_with (first | (go_at_call 55; refine (space_any _ _).mono ?_; rintro e w1 ⟨rfl, rfl⟩) | (go_at_call 57; refine (HQ wo.heap.size wo.heap.size _ (by omega) hbd).mono ?_; rintro e w1 ⟨rfl, hB1⟩))
                  go_ret2
                  exact ⟨rfl, hB.trans (hB1.mono hBs)⟩
                · have en := bt_eq line (m + 1 + m') hm1
                  have x1 : (m : Int) + (1 + (m' : Int)) = ((m + 1 + m' : Nat) : Int) := by omega
                  go_wp2_with (first | (go_at_call 55; refine (space_any _ _).mono ?_; rintro e w1 ⟨rfl, rfl⟩) | (go_at_call 57; refine (HQ wo.heap.size wo.heap.size _ (by omega) hbd).mono ?_; rintro e w1 ⟨rfl, hB1⟩))
                  go_ret2
                  exact ⟨rfl, hB.trans (hB1.mono hBs)⟩
            · have hmp' : m < p := by omega
              obtain ⟨n34, n39⟩ := H.before m hmp'
              have n34' : (bt line m == 34) = false := by simpa using n34
              have n39' : (bt line m == 39) = false := by simpa using n39
              clear n34 n39
              go_wp2_with (first | (go_at_call 55; refine (space_any _ _).mono ?_; rintro e w1 ⟨rfl, rfl⟩) | (go_at_call 58; refine (write_word w.heap.size wo.heap.size m k u4 (line[m]'hml) _ em _ hW hA (by omega) (by omega)).mono ?_; rintro e w1 ⟨rfl, hW1, hA1, hB1⟩))
              have hs1 := hB1.size
              go_roundg (gk - 1)
              case measure => omega
              case rel => exact ⟨m + 1, by omega, by omega, by go_num, by omega, hW1, hA1, hB.trans (hB1.mono hBs), by omega⟩
          · -- white space: the word ends
            have hjm' : j < m := by
              rcases Nat.lt_or_ge j m with h | h
              · exact h
              · have : j = m := by omega
                rw [← this, hsp] at hspm
                cases hspm
            go_wp2_with (first | (go_at_call 55; refine (space_any _ _).mono ?_; rintro e w1 ⟨rfl, rfl⟩) | (go_at_call 59; refine (string_word w.heap.size wo.heap.size m k u4 _ hW hA (by omega)).mono ?_; rintro e w1 ⟨⟨sx, rfl⟩, ⟨n1, ys1, hown1, hn1⟩, hB1⟩) | (at_builtin; refine wpList_append_own _ rfl (.tmp 76) (.tmp 78) 27 rfl w.heap.size 9 i0 (.string ByteArray.empty) 1 16 Try.underlying27 hi hz0 hz1 hz2 rfl (by decide) _ _ _ rfl (hown1.alloc _) ⟨w1.heap.size, 0, none⟩ 1 1 [.string sx] rfl rfl (cell_one_new _ _ _) (by intro u hu; simp at hu; subst hu; rfl) (by unfold maxLen; omega) (by omega) (by have := hB.size; have := hB1.size; simp; omega) ?_; intro v2 w2 hown2 hgrow2 _))
            have hs1 := hB1.size
            have hB2 : Below w.heap.size w w2 := ((hB.trans (hB1.mono hBs)).alloc (by omega) _).grown hgrow2 (by simp; omega) (fun q hq => (hown1.lt q hq).1)
            go_roundg (p + 1 - m)
            case measure => omega
            case rel => exact ⟨m, hmp, rfl, by omega, ⟨n1 + 1, _, hown2, by omega⟩, hB2⟩
      · have hjp' : j < p := by
          rcases Nat.lt_or_ge j p with h | h
          · exact h
          · have : j = p := by omega
            rw [this, hpsp] at hsp
            cases hsp
        have hsp' : spB ((line[j]'hjl).toNat : Int) = true := by rw [ej]; exact hsp
        go_wp2_with (go_at_call 55; refine (space_any _ _).mono ?_; rintro e w1 ⟨rfl, rfl⟩)
        go_round
        case rel => exact ⟨j + 1, by omega, by omega, by go_num⟩
        case measure => simp [intOf]; omega
end Go.Proofs.Qxb6001659a.Quo
