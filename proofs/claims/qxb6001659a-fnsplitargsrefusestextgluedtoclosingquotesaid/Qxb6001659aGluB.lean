/-
  THE QUOTING HELPERS: zzHexDigit (73), zzEscQuote (61), zzSingleQuote (62), zzLastIsBackslash (20), zzIsSpace (19), zzBytes (18).
-/
import Derived.Test.Qxb6001659aGluA
namespace Go.Proofs.Qxb6001659a.Glu
open Go.RowKit Go.Proofs.Qxb6001659a.Quo Go.Proofs.Qxb6001659a.Unc

theorem one_of_bytes (l : List UInt8) : ∀ u ∈ Lib.byteCells l, u.oneCell' = true := by
  intro u hu
  simp only [Lib.byteCells, List.mem_map] at hu
  obtain ⟨x, _, rfl⟩ := hu
  rfl

/-- append of some bytes to a row of bytes of the call's own. -/
theorem app_line {ops : Array Oper} {rest : List Oper} {o : Oper} {a : Act} {Q : Exit → Act → World → Prop} (w : World) (hgd : o.guard = none) (s x : Operand)
    (ho : o.op = .call { callee := .builtin .append, args := #[s, x], argTypes := #[25, 25] }) (B : Nat) (v : Value) (l : List UInt8) (hs : a.eval s = v) (hL : Line B v l w)
    (ad : Addr) (m c : Nat) (news : List UInt8) (hx : a.eval x = .slice (some ad) m c) (hm : news.length = m) (hnews : ∀ j u, (Lib.byteCells news)[j]? = some u → w.cell? (ad.add j) = some u)
    (hlen : l.length + m ≤ 100000000) (hB : B ≤ w.heap.size)
    (h : ∀ v' w', Line B v' (l ++ news) w' → Below B w w' → wpList Try.prog ops Q rest (a.put o.dst v') w') : wpList Try.prog ops Q (o :: rest) a w := by
  obtain ⟨i0, hi, hz0, hz1, hz2⟩ := info_parts Bld.info5
  refine wpList_append_own _ hgd s x 25 ho B 5 i0 (.int .u8 0) 1 1 Try.underlying25 hi hz0 hz1 hz2 rfl (by decide) v l.length (Lib.byteCells l) hs hL ad m c (Lib.byteCells news) hx (by rw [Lib.byteCells_length, hm]; omega) hnews (one_of_bytes _) (by unfold maxLen; omega) (by omega) hB ?_
  intro v' w' hown hgrow _
  exact h v' w' (Line.of hown rfl (by simp [hm])) ((Below.refl _ _).grown hgrow hB (fun q hq => (World.ownsRow.lt hL q hq).1))

theorem Line.alloc {B : Nat} {v : Value} {l : List UInt8} {w : World} (h : Line B v l w) (o : Obj) : Line B v l (w.alloc o) := World.ownsRow.alloc h o

/-- A row that ends in k chunks behind l and an opening quote q. -/
def ChRow (C : List UInt8 → Prop) (q : UInt8) (B : Nat) (l : List UInt8) (k : Nat) (v : Value) (w : World) : Prop :=
  ∃ cs : List (List UInt8), cs.length = k ∧ (∀ c ∈ cs, C c) ∧ Line B v (l ++ q :: cs.flatten) w

theorem chunks_len (C : List UInt8 → Prop) (hC : ∀ c, C c → c.length ≤ 4) : ∀ cs : List (List UInt8), (∀ c ∈ cs, C c) → cs.flatten.length ≤ 4 * cs.length := by
  intro cs
  induction cs with
  | nil => intro _; simp
  | cons c cs ih =>
    intro h
    have h1 := hC c (h c (by simp))
    have h2 := ih (fun d hd => h d (by simp [hd]))
    rw [List.flatten_cons, List.length_append, List.length_cons]
    omega

theorem dchunk_len (c : List UInt8) (h : DChunk c) : c.length ≤ 4 := by
  rcases h with ⟨x, rfl, _⟩ | ⟨e, rfl, _⟩ | ⟨h1, h2, rfl, _⟩ <;> simp
theorem schunk_len (c : List UInt8) (h : SChunk c) : c.length ≤ 4 := by
  rcases h with ⟨x, rfl, _⟩ | rfl <;> simp

theorem ChRow.put {C : List UInt8 → Prop} {q : UInt8} {B : Nat} {l : List UInt8} {k : Nat} {v : Value} {w : World} {cs : List (List UInt8)} {c : List UInt8} (hl : cs.length = k) (hc : ∀ c ∈ cs, C c) (h : C c)
    (hL : Line B v ((l ++ q :: cs.flatten) ++ c) w) : ChRow C q B l (k + 1) v w := by
  refine ⟨cs ++ [c], by simp [hl], ?_, ?_⟩
  · intro d hd
    rcases List.mem_append.1 hd with hd | hd
    · exact hc d hd
    · simp at hd; subst hd; exact h
  · rw [List.flatten_append, List.flatten_cons, List.flatten_nil, List.append_nil, ← List.cons_append, ← List.append_assoc]
    exact hL

theorem byte_eq {x : UInt8} {n : UInt8} (h : (x.toNat : Int) = (n.toNat : Int)) : x = n := UInt8.toNat_inj.1 (by omega)

def EscPost (C : List UInt8 → Prop) (q : UInt8) (B : Nat) (l : List UInt8) (n : Nat) (w : World) (e : Ending) (w' : World) : Prop :=
  ∃ (v' : Value) (cs : List (List UInt8)), e = .returned v' ∧ cs.length = n ∧ (∀ c ∈ cs, C c) ∧ Line B v' (l ++ q :: cs.flatten ++ [q]) w' ∧ Below B w w'

set_option maxHeartbeats 2000000 in
theorem esc_any (B : Nat) (v : Value) (l : List UInt8) (s : ByteArray) (w : World) (h : Line B v l w) (hB : B ≤ w.heap.size) (hlen : l.length ≤ 1000000) (hs : s.size ≤ 1000000) :
    Calls Try.prog 61 #[v, .string s] w fun e w' => EscPost DChunk 34 B l s.size w e w' := by
  go_enter Try.func61, Try.ntmps61
  go_wp2_with (at_builtin; refine app_line _ rfl _ _ rfl B _ l rfl (h.alloc _) ⟨w.heap.size, 0, none⟩ 1 1 [34] rfl rfl (cell_one_new _ _ _) (by omega) (by simp; omega) ?_; intro v1 w1 hL1 hB1)
  have hS : ChRow DChunk 34 B l 0 v1 w1 := ⟨[], rfl, by simp, hL1⟩
  have hBs : Below B w w1 := ((Below.refl _ _).alloc hB _).trans hB1
  clear hL1 hB1
  go_loopw [0, 5] (fun v i wr => ∃ k : Nat, k ≤ s.size ∧ i = .int .i64 k ∧ ChRow DChunk 34 B l k v wr ∧ Below B w wr) (fun _ i _ => s.size - (intOf i).toNat)
  case atStart => exact ⟨0, Nat.zero_le _, rfl, hS, hBs⟩
  case round =>
    clear hS hBs
    obtain ⟨k, hk, rfl, ⟨cs, hcl, hcc, hL⟩, hBr⟩ := hrel
    have hBs := hBr.size
    have hfl := chunks_len DChunk dchunk_len cs hcc
    have hle : (l ++ 34 :: cs.flatten).length ≤ 10000000 := by rw [List.length_append, List.length_cons]; omega
    have HL : Hid (Line B u0 (l ++ 34 :: cs.flatten) wr ∧ cs.length = k ∧ ∀ c ∈ cs, DChunk c) := ⟨hL, hcl, hcc⟩
    clear hL hcl hcc hfl
    by_cases hlt : k < s.size
    · obtain ⟨x, hx⟩ : ∃ x, x = s[k]'hlt := ⟨_, rfl⟩
      have ex : ((s[k]'hlt).toNat : Int) = (x.toNat : Int) := by rw [hx]
      clear hx
      by_cases q34 : (x.toNat : Int) = 34
      · rw [q34] at ex
        go_wp2_with (at_builtin; refine app_line _ rfl _ _ rfl B _ _ rfl (HL.out.1.alloc _) ⟨wr.heap.size, 0, none⟩ 2 2 [92, 34] rfl rfl (two_new _ _ _ _) (by omega) (by simp; omega) ?_; intro v2 w2 hL2 hB2)
        have hB3 : Below B w w2 := (hBr.alloc (by omega) _).trans hB2
        go_roundw
        case rel => exact ⟨k + 1, by omega, by go_num, ChRow.put HL.out.2.1 HL.out.2.2 (.inr (.inl ⟨_, rfl, by decide⟩)) hL2, hB3⟩
        case measure => simp [intOf]; omega
      have n34 : ((x.toNat : Int) == 34) = false := by simpa using q34
      by_cases q92 : (x.toNat : Int) = 92
      · rw [q92] at ex
        go_wp2_with (at_builtin; refine app_line _ rfl _ _ rfl B _ _ rfl (HL.out.1.alloc _) ⟨wr.heap.size, 0, none⟩ 2 2 [92, 92] rfl rfl (two_new _ _ _ _) (by omega) (by simp; omega) ?_; intro v2 w2 hL2 hB2)
        have hB3 : Below B w w2 := (hBr.alloc (by omega) _).trans hB2
        go_roundw
        case rel => exact ⟨k + 1, by omega, by go_num, ChRow.put HL.out.2.1 HL.out.2.2 (.inr (.inl ⟨_, rfl, by decide⟩)) hL2, hB3⟩
        case measure => simp [intOf]; omega
      have n92 : ((x.toNat : Int) == 92) = false := by simpa using q92
      by_cases q10 : (x.toNat : Int) = 10
      · rw [q10] at ex
        go_wp2_with (at_builtin; refine app_line _ rfl _ _ rfl B _ _ rfl (HL.out.1.alloc _) ⟨wr.heap.size, 0, none⟩ 2 2 [92, 110] rfl rfl (two_new _ _ _ _) (by omega) (by simp; omega) ?_; intro v2 w2 hL2 hB2)
        have hB3 : Below B w w2 := (hBr.alloc (by omega) _).trans hB2
        go_roundw
        case rel => exact ⟨k + 1, by omega, by go_num, ChRow.put HL.out.2.1 HL.out.2.2 (.inr (.inl ⟨_, rfl, by decide⟩)) hL2, hB3⟩
        case measure => simp [intOf]; omega
      have n10 : ((x.toNat : Int) == 10) = false := by simpa using q10
      by_cases q13 : (x.toNat : Int) = 13
      · rw [q13] at ex
        go_wp2_with (at_builtin; refine app_line _ rfl _ _ rfl B _ _ rfl (HL.out.1.alloc _) ⟨wr.heap.size, 0, none⟩ 2 2 [92, 114] rfl rfl (two_new _ _ _ _) (by omega) (by simp; omega) ?_; intro v2 w2 hL2 hB2)
        have hB3 : Below B w w2 := (hBr.alloc (by omega) _).trans hB2
        go_roundw
        case rel => exact ⟨k + 1, by omega, by go_num, ChRow.put HL.out.2.1 HL.out.2.2 (.inr (.inl ⟨_, rfl, by decide⟩)) hL2, hB3⟩
        case measure => simp [intOf]; omega
      have n13 : ((x.toNat : Int) == 13) = false := by simpa using q13
      by_cases q9 : (x.toNat : Int) = 9
      · rw [q9] at ex
        go_wp2_with (at_builtin; refine app_line _ rfl _ _ rfl B _ _ rfl (HL.out.1.alloc _) ⟨wr.heap.size, 0, none⟩ 2 2 [92, 116] rfl rfl (two_new _ _ _ _) (by omega) (by simp; omega) ?_; intro v2 w2 hL2 hB2)
        have hB3 : Below B w w2 := (hBr.alloc (by omega) _).trans hB2
        go_roundw
        case rel => exact ⟨k + 1, by omega, by go_num, ChRow.put HL.out.2.1 HL.out.2.2 (.inr (.inl ⟨_, rfl, by decide⟩)) hL2, hB3⟩
        case measure => simp [intOf]; omega
      have n9 : ((x.toNat : Int) == 9) = false := by simpa using q9
      by_cases q8 : (x.toNat : Int) = 8
      · rw [q8] at ex
        go_wp2_with (at_builtin; refine app_line _ rfl _ _ rfl B _ _ rfl (HL.out.1.alloc _) ⟨wr.heap.size, 0, none⟩ 2 2 [92, 98] rfl rfl (two_new _ _ _ _) (by omega) (by simp; omega) ?_; intro v2 w2 hL2 hB2)
        have hB3 : Below B w w2 := (hBr.alloc (by omega) _).trans hB2
        go_roundw
        case rel => exact ⟨k + 1, by omega, by go_num, ChRow.put HL.out.2.1 HL.out.2.2 (.inr (.inl ⟨_, rfl, by decide⟩)) hL2, hB3⟩
        case measure => simp [intOf]; omega
      have n8 : ((x.toNat : Int) == 8) = false := by simpa using q8
      by_cases q7 : (x.toNat : Int) = 7
      · rw [q7] at ex
        go_wp2_with (at_builtin; refine app_line _ rfl _ _ rfl B _ _ rfl (HL.out.1.alloc _) ⟨wr.heap.size, 0, none⟩ 2 2 [92, 97] rfl rfl (two_new _ _ _ _) (by omega) (by simp; omega) ?_; intro v2 w2 hL2 hB2)
        have hB3 : Below B w w2 := (hBr.alloc (by omega) _).trans hB2
        go_roundw
        case rel => exact ⟨k + 1, by omega, by go_num, ChRow.put HL.out.2.1 HL.out.2.2 (.inr (.inl ⟨_, rfl, by decide⟩)) hL2, hB3⟩
        case measure => simp [intOf]; omega
      have n7 : ((x.toNat : Int) == 7) = false := by simpa using q7
      have hd : DChunk [x] := .inl ⟨x, rfl, fun e => q34 (by rw [e]; rfl), fun e => q92 (by rw [e]; rfl)⟩
      clear q34 q92 q10 q13 q9 q8 q7
      go_wp2_with (at_builtin; refine app_line _ rfl _ _ rfl B _ _ rfl (HL.out.1.alloc _) ⟨wr.heap.size, 0, none⟩ 1 1 [x] rfl rfl (cell_one_new _ _ _) (by omega) (by simp; omega) ?_; intro v2 w2 hL2 hB2)
      have hB3 : Below B w w2 := (hBr.alloc (by omega) _).trans hB2
      go_roundw
      case rel => exact ⟨k + 1, by omega, by go_num, ChRow.put HL.out.2.1 HL.out.2.2 hd hL2, hB3⟩
      case measure => simp [intOf]; omega
    · have hkl : k = s.size := by omega
      go_wp2_with (at_builtin; refine app_line _ rfl _ _ rfl B _ _ rfl (HL.out.1.alloc _) ⟨wr.heap.size, 0, none⟩ 1 1 [34] rfl rfl (cell_one_new _ _ _) (by omega) (by simp; omega) ?_; intro v2 w2 hL2 hB2)
      have hB3 : Below B w w2 := (hBr.alloc (by omega) _).trans hB2
      go_ret
      exact ⟨_, cs, rfl, HL.out.2.1.trans hkl, HL.out.2.2, hL2, hB3⟩

/-- What is kept of the last chunk: where it is a lone backslash, so is the byte read last. -/
def LastIs (s : ByteArray) (k : Nat) (cs : List (List UInt8)) : Prop := cs.getLast? = some [92] → 0 < k ∧ bt s (k - 1) = 92

def SPost (B : Nat) (l : List UInt8) (s : ByteArray) (w : World) (e : Ending) (w' : World) : Prop :=
  ∃ (v' : Value) (cs : List (List UInt8)), e = .returned v' ∧ cs.length = s.size ∧ (∀ c ∈ cs, SChunk c) ∧ LastIs s s.size cs ∧ Line B v' (l ++ 39 :: cs.flatten ++ [39]) w' ∧ Below B w w'

def SRow (s : ByteArray) (B : Nat) (l : List UInt8) (k : Nat) (v : Value) (w : World) : Prop :=
  ∃ cs : List (List UInt8), cs.length = k ∧ (∀ c ∈ cs, SChunk c) ∧ LastIs s k cs ∧ Line B v (l ++ 39 :: cs.flatten) w

theorem SRow.put {s : ByteArray} {B : Nat} {l : List UInt8} {k : Nat} {v : Value} {w : World} {cs : List (List UInt8)} {c : List UInt8} (hl : cs.length = k) (hc : ∀ c ∈ cs, SChunk c) (h : SChunk c) (hlast : c = [92] → bt s k = 92)
    (hL : Line B v ((l ++ 39 :: cs.flatten) ++ c) w) : SRow s B l (k + 1) v w := by
  refine ⟨cs ++ [c], by simp [hl], ?_, ?_, ?_⟩
  · intro d hd
    rcases List.mem_append.1 hd with hd | hd
    · exact hc d hd
    · simp at hd; subst hd; exact h
  · intro he
    simp at he
    exact ⟨by omega, hlast he⟩
  · rw [List.flatten_append, List.flatten_cons, List.flatten_nil, List.append_nil, ← List.cons_append, ← List.append_assoc]
    exact hL

set_option maxHeartbeats 1000000 in
theorem single_any (B : Nat) (v : Value) (l : List UInt8) (s : ByteArray) (w : World) (h : Line B v l w) (hB : B ≤ w.heap.size) (hlen : l.length ≤ 1000000) (hs : s.size ≤ 1000000) :
    Calls Try.prog 62 #[v, .string s] w fun e w' => SPost B l s w e w' := by
  go_enter Try.func62, Try.ntmps62
  go_wp2_with (at_builtin; refine app_line _ rfl _ _ rfl B _ l rfl (h.alloc _) ⟨w.heap.size, 0, none⟩ 1 1 [39] rfl rfl (cell_one_new _ _ _) (by omega) (by simp; omega) ?_; intro v1 w1 hL1 hB1)
  have hS : SRow s B l 0 v1 w1 := ⟨[], rfl, by simp, by intro h; simp at h, hL1⟩
  have hBs : Below B w w1 := ((Below.refl _ _).alloc hB _).trans hB1
  clear hL1 hB1
  go_loopw [0, 5] (fun v i wr => ∃ k : Nat, k ≤ s.size ∧ i = .int .i64 k ∧ SRow s B l k v wr ∧ Below B w wr) (fun _ i _ => s.size - (intOf i).toNat)
  case atStart => exact ⟨0, Nat.zero_le _, rfl, hS, hBs⟩
  case round =>
    clear hS hBs
    obtain ⟨k, hk, rfl, ⟨cs, hcl, hcc, hla, hL⟩, hBr⟩ := hrel
    have hBs := hBr.size
    have hfl := chunks_len SChunk schunk_len cs hcc
    have hle : (l ++ 39 :: cs.flatten).length ≤ 10000000 := by rw [List.length_append, List.length_cons]; omega
    have HL : Hid (Line B u0 (l ++ 39 :: cs.flatten) wr ∧ cs.length = k ∧ (∀ c ∈ cs, SChunk c) ∧ LastIs s k cs) := ⟨hL, hcl, hcc, hla⟩
    clear hL hcl hcc hfl hla
    by_cases hlt : k < s.size
    · obtain ⟨x, hx⟩ : ∃ x, x = s[k]'hlt := ⟨_, rfl⟩
      have ex : ((s[k]'hlt).toNat : Int) = (x.toNat : Int) := by rw [hx]
      have eb : Hid (bt s k = (x.toNat : Int)) := by rw [hx]; exact (bt_eq s k hlt).symm
      clear hx
      by_cases q39 : (x.toNat : Int) = 39
      · rw [q39] at ex
        go_wp2_with (at_builtin; refine app_line _ rfl _ _ rfl B _ _ rfl (HL.out.1.alloc _) ⟨wr.heap.size, 0, none⟩ 2 2 [92, 39] rfl rfl (two_new _ _ _ _) (by omega) (by simp; omega) ?_; intro v2 w2 hL2 hB2)
        have hB3 : Below B w w2 := (hBr.alloc (by omega) _).trans hB2
        go_roundw
        case rel => exact ⟨k + 1, by omega, by go_num, SRow.put HL.out.2.1 HL.out.2.2.1 (.inr rfl) (by intro e; simp at e) hL2, hB3⟩
        case measure => simp [intOf]; omega
      · have n39 : ((x.toNat : Int) == 39) = false := by simpa using q39
        have hd : SChunk [x] := .inl ⟨x, rfl, fun e => q39 (by rw [e]; rfl)⟩
        clear q39
        go_wp2_with (at_builtin; refine app_line _ rfl _ _ rfl B _ _ rfl (HL.out.1.alloc _) ⟨wr.heap.size, 0, none⟩ 1 1 [x] rfl rfl (cell_one_new _ _ _) (by omega) (by simp; omega) ?_; intro v2 w2 hL2 hB2)
        have hB3 : Below B w w2 := (hBr.alloc (by omega) _).trans hB2
        go_roundw
        case rel => exact ⟨k + 1, by omega, by go_num, SRow.put HL.out.2.1 HL.out.2.2.1 hd (by intro e; simp at e; rw [eb.out, e]; rfl) hL2, hB3⟩
        case measure => simp [intOf]; omega
    · have hkl : k = s.size := by omega
      go_wp2_with (at_builtin; refine app_line _ rfl _ _ rfl B _ _ rfl (HL.out.1.alloc _) ⟨wr.heap.size, 0, none⟩ 1 1 [39] rfl rfl (cell_one_new _ _ _) (by omega) (by simp; omega) ?_; intro v2 w2 hL2 hB2)
      have hB3 : Below B w w2 := (hBr.alloc (by omega) _).trans hB2
      go_ret
      exact ⟨_, cs, rfl, HL.out.2.1.trans hkl, HL.out.2.2.1, by rw [← hkl]; exact HL.out.2.2.2, hL2, hB3⟩

/-- zzLastIsBackslash: where it answers false, the last byte is no backslash. -/
def LastPost (s : ByteArray) (e : Ending) : Prop := NoBool (0 < s.size → bt s (s.size - 1) ≠ 92) e

set_option maxHeartbeats 400000 in
theorem last_any (s : ByteArray) (w : World) (hs : s.size ≤ maxLen) : Calls Try.prog 20 #[.string s] w fun e w' => LastPost s e ∧ w = w' := by
  unfold maxLen at hs
  by_cases h0 : 0 < s.size
  · have hlt : s.size - 1 < s.size := by omega
    have e0 := bt_eq s (s.size - 1) hlt
    have e1 : ((s.size : Int) - 1) = ((s.size - 1 : Nat) : Int) := by omega
    have r1 := run_index_at s (s.size - 1) ((s.size : Int) - 1) e1 hlt
    clear e1
    by_cases h92 : bt s (s.size - 1) = 92
    · rw [h92] at e0
      go_enter Try.func20, Try.ntmps20
      go_wp2
      go_ret
      exact ⟨⟨true, rfl, by simp⟩, rfl⟩
    · have h92' : (bt s (s.size - 1) == 92) = false := by simpa using h92
      go_enter Try.func20, Try.ntmps20
      go_wp2
      go_ret
      exact ⟨⟨false, rfl, fun _ _ => h92⟩, rfl⟩
  · have h0' : decide ((0 : Int) < (s.size : Int)) = false := decide_eq_false (by omega)
    go_enter Try.func20, Try.ntmps20
    go_wp2
    go_ret
    exact ⟨⟨false, rfl, fun _ h => absurd h h0⟩, rfl⟩

set_option maxHeartbeats 400000 in
theorem zspace_any (c : Int) (w : World) : Calls Try.prog 19 #[.int .u8 c] w fun e w' => e = .returned (.bool (spB c)) ∧ w = w' := by
  go_enter Try.func19, Try.ntmps19
  go_wp2
  all_goals
    go_ret
    refine ⟨ret_bool ?_, rfl⟩
    simp only [spB]
    first
      | (simp; done)
      | (simp_all; done)
      | (rw [Bool.eq_iff_iff]; simp only [Bool.or_eq_true, decide_eq_true_eq, beq_iff_eq]; omega)

set_option maxHeartbeats 400000 in
theorem zbytes_any (a b : ByteArray) (x y : Int) (c : ByteArray) (w : World) (ha : a.size ≤ maxLen) (hb : b.size ≤ maxLen) (hc : c.size ≤ maxLen) :
    Calls Try.prog 18 #[.string a, .string b, .int .u8 x, .int .u8 y, .string c] w fun e w' => Any e ∧ w = w' := by
  unfold maxLen at ha hb hc
  go_enter Try.func18, Try.ntmps18
  go_wp2
  all_goals
    go_ret
    exact ⟨⟨_, rfl⟩, rfl⟩

/-- A hexadecimal digit, as a byte. -/
def HexPost (e : Ending) : Prop := ∃ h : UInt8, e = .returned (.int .u8 (h.toNat : Int)) ∧ hexB (h.toNat : Int) = true

theorem HexPost.of {n : Int} (h : hexB n = true) (h0 : 0 ≤ n) (h1 : n ≤ 255) : HexPost (.returned (.int .u8 n)) := by
  have e : ((UInt8.ofNat n.toNat).toNat : Int) = n := by simp; omega
  exact ⟨UInt8.ofNat n.toNat, by rw [e], by rw [e]; exact h⟩

set_option maxHeartbeats 400000 in
theorem hexd_any (v : Int) (up : Bool) (w : World) (h0 : 0 ≤ v) (h1 : v ≤ 15) : Calls Try.prog 73 #[.int .u8 v, .bool up] w fun e w' => HexPost e ∧ w = w' := by
  by_cases hv : v < 10
  · go_enter Try.func73, Try.ntmps73
    go_wp2
    go_ret
    refine ⟨HexPost.of ?_ ?_ ?_, rfl⟩ <;> first | omega | (unfold hexB; rw [decide_eq_true_iff]; omega)
  · cases up
    · go_enter Try.func73, Try.ntmps73
      go_wp2
      go_ret
      refine ⟨HexPost.of ?_ ?_ ?_, rfl⟩ <;> first | omega | (unfold hexB; rw [decide_eq_true_iff]; omega)
    · go_enter Try.func73, Try.ntmps73
      go_wp2
      go_ret
      refine ⟨HexPost.of ?_ ?_ ?_, rfl⟩ <;> first | omega | (unfold hexB; rw [decide_eq_true_iff]; omega)
end Go.Proofs.Qxb6001659a.Glu
