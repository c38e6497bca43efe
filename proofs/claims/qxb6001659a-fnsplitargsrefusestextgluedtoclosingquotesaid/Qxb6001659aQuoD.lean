/-
  The laws' own helpers: zzHasByte (15), zzHasQuote (14), zzAppendString (16).
-/
import Derived.Test.Qxb6001659aQuoC
namespace Go.Proofs.Qxb6001659a.Quo
open Go.RowKit

/-- A call that answers some bool; where it is false, p holds. -/
def NoBool (p : Prop) (e : Ending) : Prop := ∃ r, e = .returned (.bool r) ∧ (r = false → p)
/-- No byte of s is c. -/
def NoByte (s : ByteArray) (c : Int) : Prop := ∀ k, k < s.size → bt s k ≠ c
def HasPost (s : ByteArray) (c : Int) (e : Ending) : Prop := NoBool (NoByte s c) e
theorem HasPost.yes {s : ByteArray} {c : Int} : HasPost s c (.returned (.bool true)) := ⟨true, rfl, by simp⟩
theorem HasPost.no {s : ByteArray} {c : Int} (h : NoByte s c) : HasPost s c (.returned (.bool false)) := ⟨false, rfl, fun _ => h⟩

set_option maxHeartbeats 400000 in
theorem has_any (s : ByteArray) (c : Int) (w : World) (hs : s.size ≤ maxLen) : Calls Try.prog 15 #[.string s, .int .u8 c] w fun e w' => HasPost s c e ∧ w = w' := by
  unfold maxLen at hs
  go_enter Try.func15, Try.ntmps15
  go_wp2
  go_loop [5] (fun i => ∃ k : Nat, k ≤ s.size ∧ i = .int .i64 k ∧ Hid (∀ j, j < k → bt s j ≠ c)) (fun i => s.size - (intOf i).toNat)
  case atStart => exact ⟨0, Nat.zero_le _, rfl, fun j hj => absurd hj (Nat.not_lt_zero j)⟩
  case round =>
    obtain ⟨k, hk, rfl, hno⟩ := hrel
    by_cases hlt : k < s.size
    · have e0 := bt_eq s k hlt
      by_cases hq : bt s k = c
      · subst hq
        go_wp2
        go_ret
        exact ⟨HasPost.yes, rfl⟩
      · have hq' : (bt s k == c) = false := by simpa using hq
        have hno' : Hid (∀ j, j < k + 1 → bt s j ≠ c) := fun j hj => by
          by_cases e : j = k
          · subst e; exact hq
          · exact hno.out j (by omega)
        clear hq hno
        go_wp2
        go_round
        case rel => exact ⟨k + 1, by omega, by go_num, hno'⟩
        case measure => simp [intOf]; omega
    · go_wp2
      go_ret
      exact ⟨HasPost.no (fun j hj => hno.out j (by omega)), rfl⟩

def NoQuote (s : ByteArray) : Prop := NoByte s 34 ∧ NoByte s 39
def QuotePost (s : ByteArray) (e : Ending) : Prop := NoBool (NoQuote s) e

set_option maxHeartbeats 400000 in
theorem hasq_any (s : ByteArray) (w : World) (hs : s.size ≤ maxLen) : Calls Try.prog 14 #[.string s] w fun e w' => QuotePost s e ∧ w = w' := by
  go_enter Try.func14, Try.ntmps14
  go_wp2_with fail
  refine (has_any s 34 _ hs).mono ?_
  rintro e w1 ⟨⟨r, rfl, hr⟩, rfl⟩
  cases r
  · have hr' := hr rfl
    clear hr
    go_wp2_with fail
    refine (has_any s 39 _ hs).mono ?_
    rintro e w1 ⟨⟨r, rfl, hr⟩, rfl⟩
    go_wp2
    go_ret
    refine ⟨⟨r, ?_, fun h => ⟨hr', hr h⟩⟩, rfl⟩
    rfl
  · clear hr
    go_wp2
    go_ret
    exact ⟨⟨true, rfl, by simp⟩, rfl⟩

/-- A row of bytes of the call's own. -/
def Line (B : Nat) (v : Value) (l : List UInt8) (w : World) : Prop := w.ownsRow B 5 1 v l.length (Lib.byteCells l)

theorem byteCells_append (a b : List UInt8) : Lib.byteCells (a ++ b) = Lib.byteCells a ++ Lib.byteCells b := by simp [Lib.byteCells]

theorem Line.of {B : Nat} {v : Value} {l m : List UInt8} {n : Nat} {xs : List Value} {w : World} (h : w.ownsRow B 5 1 v n (Lib.byteCells l ++ xs)) (hx : xs = Lib.byteCells m) (hn : n = (l ++ m).length) : Line B v (l ++ m) w := by
  subst hx hn
  unfold Line
  rw [byteCells_append]
  exact h

theorem take_snoc (s : ByteArray) (k : Nat) (h : k < s.size) : s.data.toList.take (k + 1) = s.data.toList.take k ++ [s[k]] := by
  rw [List.take_succ_eq_append_getElem (by simpa using h)]; rfl

def AppPost (B : Nat) (l : List UInt8) (s : ByteArray) (w : World) (e : Ending) (w' : World) : Prop := ∃ v', e = .returned v' ∧ Line B v' (l ++ s.data.toList) w' ∧ Below B w w'

set_option maxHeartbeats 1000000 in
theorem app_any (B : Nat) (v : Value) (l : List UInt8) (s : ByteArray) (w : World) (h : Line B v l w) (hB : B ≤ w.heap.size) (hlen : l.length ≤ 1000000) (hs : s.size ≤ 1000000) :
    Calls Try.prog 16 #[v, .string s] w fun e w' => AppPost B l s w e w' := by
  obtain ⟨i0, hi, hz0, hz1, hz2⟩ := info_parts Bld.info5
  go_enter Try.func16, Try.ntmps16
  go_wp2
  go_loopw [0, 5] (fun v i wr => ∃ k : Nat, k ≤ s.size ∧ i = .int .i64 k ∧ Line B v (l ++ s.data.toList.take k) wr ∧ Below B w wr) (fun _ i _ => s.size - (intOf i).toNat)
  case atStart => exact ⟨0, Nat.zero_le _, rfl, by simpa using h, Below.refl _ _⟩
  case round =>
    obtain ⟨k, hk, rfl, hL, hBr⟩ := hrel
    have hBs := hBr.size
    by_cases hlt : k < s.size
    · have hle : (l ++ s.data.toList.take k).length ≤ 2000000 := by simp; omega
      have HL : Hid (Line B u0 (l ++ s.data.toList.take k) wr) := hL
      clear hL
      go_wp2_with (at_builtin; refine wpList_append_own _ rfl _ _ 25 rfl B 5 i0 (.int .u8 0) 1 1 Try.underlying25 hi hz0 hz1 hz2 rfl (by decide) _ _ _ rfl (World.ownsRow.alloc HL.out _) ⟨wr.heap.size, 0, none⟩ 1 1 [.int .u8 ((s[k]'hlt).toNat : Int)] rfl rfl (cell_one_new _ _ _) (by intro u hu; simp at hu; subst hu; rfl) (by unfold maxLen; omega) (by omega) (by simp; omega) ?_; intro v2 w2 hown2 hgrow2 _)
      have hL2 : Line B v2 ((l ++ s.data.toList.take k) ++ [s[k]'hlt]) w2 := Line.of hown2 rfl (by simp; omega)
      rw [List.append_assoc, ← take_snoc] at hL2
      have hB2 : Below B w w2 := (hBr.alloc (by omega) _).grown hgrow2 (by simp; omega) (fun q hq => (World.ownsRow.lt HL.out q hq).1)
      clear hown2 hgrow2 HL
      go_wp2
      go_roundw
      case rel => exact ⟨k + 1, by omega, by go_num, hL2, hB2⟩
      case measure => simp [intOf]; omega
    · go_wp2
      go_ret
      have hkl : k = s.size := by omega
      subst hkl
      refine ⟨_, rfl, ?_, hBr⟩
      rw [List.take_of_length_le (by simp)] at hL
      exact hL

theorem Line.empty (w : World) : Line w.heap.size (.slice (some ⟨w.heap.size, 0, none⟩) 0 0) [] (w.alloc (.cells #[] 5)) :=
  World.ownsRow_lit w #[] 0 (Nat.le_refl _) (by unfold maxLen; omega) rfl

theorem two_new (w : World) (x y : Value) (t : TypeId) : ∀ j u, [x, y][j]? = some u → (w.alloc (.cells #[x, y] t)).cell? ((⟨w.heap.size, 0, none⟩ : Addr).add j) = some u := by
  intro j u hj
  match j, hj with
  | 0, hj => simp at hj; subst hj; simp [Addr.add]
  | 1, hj => simp at hj; subst hj; simp [Addr.add]

/-- The string that a row of bytes converts to. -/
theorem Line.conv {B : Nat} {v : Value} {l : List UInt8} {w : World} (h : Line B v l w) (h0 : l ≠ []) : ∃ g n cap, v = .slice (some ⟨g, 0, none⟩) n cap ∧ (convert 25 9 (.slice (some ⟨g, 0, none⟩) n cap)).run Try.prog w = .ok (.string ⟨l.toArray⟩) w := by
  have hlen : 0 < l.length := List.length_pos_iff.2 h0
  rcases h.2 with ⟨_, hn⟩ | ⟨g, cap, cur, hv, _⟩
  · omega
  · refine ⟨g, l.length, cap, hv, ?_⟩
    subst hv
    refine run_convert_bytes_back w 25 9 5 ⟨g, 0, none⟩ cap l Try.underlying25 Try.underlying5 Try.underlying9 fun j hj => ?_
    have := World.ownsRow.cells h (g := g) rfl j (.int .u8 (l[j].toNat : Int)) (by simp [Lib.byteCells, List.getElem?_eq_getElem hj])
    exact this

end Go.Proofs.Qxb6001659a.Quo
