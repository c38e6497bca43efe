/-
  THE QUOTING HELPERS: zzHexQuote (60), zzQuoteStyle (21).
-/
import Derived.Test.Qxb6001659aGluB
import Derived.Deep.AppendLies
import Derived.Laws.BitsAllLaws
namespace Go.Proofs.Qxb6001659a.Glu
open Go.RowKit Go.Proofs.Qxb6001659a.Quo Go.Proofs.Qxb6001659a.Unc

theorem and15 (x : UInt8) : 0 ≤ bits BinOp.and IntKind.u8 (x.toNat : Int) 15 ∧ bits BinOp.and IntKind.u8 (x.toNat : Int) 15 ≤ 15 := by
  have h := u8_and_nat x.toNat 15 (by have := x.toNat_lt; omega) (by omega)
  have e : bits BinOp.and IntKind.u8 (x.toNat : Int) 15 = ((x.toNat &&& 15 : Nat) : Int) := h
  rw [e]
  have := Nat.and_le_right (n := x.toNat) (m := 15)
  omega

theorem four_new (w : World) (a b c d : Value) (t : TypeId) : ∀ j u, [a, b, c, d][j]? = some u → (w.alloc (.cells #[a, b, c, d] t)).cell? ((⟨w.heap.size, 0, none⟩ : Addr).add j) = some u := by
  intro j u hj
  match j, hj with
  | 0, hj => simp at hj; subst hj; simp [Addr.add]
  | 1, hj => simp at hj; subst hj; simp [Addr.add]
  | 2, hj => simp at hj; subst hj; simp [Addr.add]
  | 3, hj => simp at hj; subst hj; simp [Addr.add]

attribute [local go_sem] Go.wp_at_zero Go.wp_at_succ

set_option maxHeartbeats 4000000 in
set_option maxRecDepth 100000 in
theorem hex_quote_any (B : Nat) (v : Value) (l : List UInt8) (s : ByteArray) (up : Bool) (w : World) (h : Line B v l w) (hB : B ≤ w.heap.size) (hlen : l.length ≤ 1000000) (hs : s.size ≤ 1000000) :
    Calls Try.prog 60 #[v, .string s, .bool up] w fun e w' => EscPost DChunk 34 B l s.size w e w' := by
  obtain ⟨i0, hi, hz0, hz1, hz2⟩ := info_parts Bld.info5
  go_enter Try.func60, Try.ntmps60
  go_wp2_with (at_builtin; refine app_line _ rfl _ _ rfl B _ l rfl (h.alloc _) ⟨w.heap.size, 0, none⟩ 1 1 [34] rfl rfl (cell_one_new _ _ _) (by omega) (by simp; omega) ?_; intro v1 w1 hL1 hB1)
  have hS : ChRow DChunk 34 B l 0 v1 w1 := ⟨[], rfl, by simp, hL1⟩
  have hBs : Below B w w1 := ((Below.refl _ _).alloc hB _).trans hB1
  clear hL1 hB1
  go_loopw [0, 7] (fun v i wr => ∃ k : Nat, k ≤ s.size ∧ i = .int .i64 k ∧ ChRow DChunk 34 B l k v wr ∧ Below B w wr) (fun _ i _ => s.size - (intOf i).toNat)
  case atStart => exact ⟨0, Nat.zero_le _, rfl, hS, hBs⟩
  case round =>
    clear hS hBs
    obtain ⟨k, hk, rfl, ⟨cs, hcl, hcc, hL⟩, hBr⟩ := hrel
    have hBs := hBr.size
    have hfl := chunks_len DChunk dchunk_len cs hcc
    have hle : (l ++ 34 :: cs.flatten).length ≤ 10000000 := by rw [List.length_append, List.length_cons]; omega
    obtain ⟨L, hLd⟩ : ∃ L, L = l ++ 34 :: cs.flatten := ⟨_, rfl⟩
    rw [← hLd] at hL hle
    have HL : Hid (Line B u0 L wr ∧ cs.length = k ∧ (∀ c ∈ cs, DChunk c) ∧ L = l ++ 34 :: cs.flatten) := ⟨hL, hcl, hcc, hLd⟩
    clear hL hcl hcc hfl hLd
    by_cases hlt : k < s.size
    · have r0 := run_index_at s k (k : Int) rfl hlt
      obtain ⟨x, hx⟩ : ∃ x, x = s[k]'hlt := ⟨_, rfl⟩
      have ex : ((s[k]'hlt).toNat : Int) = (x.toNat : Int) := by rw [hx]
      rw [ex] at r0
      clear hx ex
      have hx0 : (0 : Int) ≤ (x.toNat : Int) := by omega
      have hx1 : (x.toNat : Int) ≤ 255 := by have := x.toNat_lt; omega
      go_wp2
      obtain ⟨hb0, hb1⟩ := and15 x
      go_region_held3 (fun _ => True) (go_keep) (first | (go_at_call 73; refine (hexd_any _ _ _ (by omega) (by omega)).mono ?_; rintro e w1 ⟨⟨ha, rfl, hha⟩, rfl⟩) | (refine step_append_lies _ (by rfl) (.tmp 17) (.tmp 30) 25 (by rfl) B 5 i0 (.int .u8 0) 1 1 Try.underlying25 hi hz0 hz1 hz2 rfl (by decide) u0 _ _ (by rfl) (World.ownsRow.drew (World.ownsRow.alloc HL.out.1 _)) ⟨wr.heap.size, 0, none⟩ 4 4 _ (by rfl) rfl (four_new _ _ _ _ _ _) (by intro u hu; simp at hu; rcases hu with rfl | rfl | rfl | rfl <;> rfl) (by omega) (by unfold maxLen; omega) (by omega) (by simp; omega) (wr.heap.size + 1) (by simp) ?_; intro g cap w2 hown2 hgrow2 hat hlt2) | fail)
      all_goals
        obtain ⟨ck, hck, hL2⟩ : ∃ ck, DChunk ck ∧ Line B (.slice (some ⟨g, 0, none⟩) (L.length + 4) cap) (L ++ ck) w2 := by
          refine ⟨[92, 120, _, _], ?_, Line.of hown2 rfl (by simp)⟩
          exact .inr (.inr ⟨_, _, rfl, by assumption, by assumption⟩)
        have hB3 : Below B w w2 := (hBr.alloc (by omega) _).drew.grown hgrow2 (by simp; omega) (fun q hq => (World.ownsRow.lt HL.out.1 q hq).1)
        have hR : ChRow DChunk 34 B l (k + 1) (.slice (some ⟨g, 0, none⟩) (L.length + 4) cap) w2 := ChRow.put HL.out.2.1 HL.out.2.2.1 hck (by rw [← HL.out.2.2.2]; exact hL2)
        clear hown2 hgrow2 hat hL2 hck
        go_wp2
        go_roundw
        case rel => exact ⟨k + 1, by omega, by go_num, hR, hB3⟩
        case measure => simp [intOf]; omega
    · have hkl : k = s.size := by omega
      go_wp2_with (at_builtin; refine app_line _ rfl _ _ rfl B _ _ rfl (HL.out.1.alloc _) ⟨wr.heap.size, 0, none⟩ 1 1 [34] rfl rfl (cell_one_new _ _ _) (by omega) (by simp; omega) ?_; intro v2 w2 hL2 hB2)
      have hB3 : Below B w w2 := (hBr.alloc (by omega) _).trans hB2
      go_ret
      exact ⟨_, cs, rfl, HL.out.2.1.trans hkl, HL.out.2.2.1, by rw [← HL.out.2.2.2]; exact hL2, hB3⟩

/-- What zzQuoteStyle leaves. -/
def StylePost (B : Nat) (l : List UInt8) (s : ByteArray) (st : Int) (w : World) (e : Ending) (w' : World) : Prop :=
  ∃ (v' : Value) (q : UInt8) (cs : List (List UInt8)), e = .returned v' ∧ cs.length = s.size ∧ Line B v' (l ++ q :: cs.flatten ++ [q]) w' ∧ Below B w w' ∧
    ((q = 34 ∧ ∀ c ∈ cs, DChunk c) ∨ (q = 39 ∧ st % 4 = 3 ∧ (∀ c ∈ cs, SChunk c) ∧ LastIs s s.size cs))

theorem StylePost.d {B : Nat} {l : List UInt8} {s : ByteArray} {st : Int} {w : World} {e : Ending} {w' : World} (h : EscPost DChunk 34 B l s.size w e w') : StylePost B l s st w e w' := by
  obtain ⟨v', cs, h1, h2, h3, h4, h5⟩ := h
  exact ⟨v', 34, cs, h1, h2, h4, h5, .inl ⟨rfl, h3⟩⟩
theorem StylePost.s {B : Nat} {l : List UInt8} {s : ByteArray} {st : Int} {w : World} {e : Ending} {w' : World} (h : SPost B l s w e w') (h3 : st % 4 = 3) : StylePost B l s st w e w' := by
  obtain ⟨v', cs, h1, h2, hc, hl, h4, h5⟩ := h
  exact ⟨v', 39, cs, h1, h2, h4, h5, .inr ⟨rfl, h3, hc, hl⟩⟩

set_option maxHeartbeats 1000000 in
theorem style_any (B : Nat) (v : Value) (l : List UInt8) (s : ByteArray) (st : Int) (w : World) (h : Line B v l w) (hB : B ≤ w.heap.size) (hlen : l.length ≤ 1000000) (hs : s.size ≤ 1000000) (h0 : 0 ≤ st) (h1 : st ≤ 255) :
    Calls Try.prog 21 #[v, .string s, .int .u8 st] w fun e w' => StylePost B l s st w e w' := by
  rcases (show st % 4 = 0 ∨ st % 4 = 1 ∨ st % 4 = 2 ∨ st % 4 = 3 by omega) with hr | hr | hr | hr
  · go_enter Try.func21, Try.ntmps21
    go_wp2_with fail
    refine (hex_quote_any B v l s false w h hB hlen hs).mono ?_
    rintro e w1 ⟨v1, cs, rfl, hx⟩
    go_wp2
    go_ret
    exact StylePost.d ⟨v1, cs, rfl, hx⟩
  · go_enter Try.func21, Try.ntmps21
    go_wp2_with fail
    refine (hex_quote_any B v l s true w h hB hlen hs).mono ?_
    rintro e w1 ⟨v1, cs, rfl, hx⟩
    go_wp2
    go_ret
    exact StylePost.d ⟨v1, cs, rfl, hx⟩
  · go_enter Try.func21, Try.ntmps21
    go_wp2_with fail
    refine (esc_any B v l s w h hB hlen hs).mono ?_
    rintro e w1 ⟨v1, cs, rfl, hx⟩
    go_wp2
    go_ret
    exact StylePost.d ⟨v1, cs, rfl, hx⟩
  · have hr' := hr
    have HR : Hid (st % 4 = 3) := hr'
    clear hr'
    go_enter Try.func21, Try.ntmps21
    go_wp2_with fail
    refine (single_any B v l s w h hB hlen hs).mono ?_
    rintro e w1 ⟨v1, cs, rfl, hx⟩
    go_wp2
    go_ret
    exact StylePost.s ⟨v1, cs, rfl, hx⟩ HR.out

/-- The line: the words, a space, the quoted argument, the byte behind it, the rest. -/
def lineG (a : List UInt8) (q : UInt8) (f : List UInt8) (c : UInt8) (r : List UInt8) : List UInt8 := ((a ++ [32]) ++ q :: f ++ [q]) ++ [c] ++ r

theorem refusedG (a : ByteArray) (q : UInt8) (cs : List (List UInt8)) (c : UInt8) (r : List UInt8) (ha : NoQuote a) (hc : spB (c.toNat : Int) = false) (hs : (lineG a.data.toList q cs.flatten c r).length ≤ 999999)
    (hq : (q = 34 ∧ ∀ d ∈ cs, DChunk d) ∨ (q = 39 ∧ (∀ d ∈ cs, SChunk d) ∧ cs.getLast? ≠ some [92])) :
    Refused ⟨(lineG a.data.toList q cs.flatten c r).toArray⟩ (a.size + 1) (cs.flatten.length + 1) := by
  have hsz : a.data.toList.length = a.size := len_data a
  have hlen : (lineG a.data.toList q cs.flatten c r).length = a.size + 1 + (1 + cs.flatten.length + 1) + 1 + r.length := by
    unfold lineG
    simp only [List.length_append, List.length_cons, List.length_nil, hsz]
    omega
  have hL : lineG a.data.toList q cs.flatten c r = a.data.toList ++ (32 :: q :: (cs.flatten ++ q :: c :: r)) := by
    unfold lineG
    simp only [List.append_assoc, List.cons_append, List.nil_append]
  rw [hL] at hlen hs
  rw [hL]
  have hat : ∀ j, j < a.size → bt ⟨(a.data.toList ++ (32 :: q :: (cs.flatten ++ q :: c :: r))).toArray⟩ j = bt a j := by
    intro j hj
    rw [bt_list, bt_data, List.getElem?_append_left (by omega)]
  have hback : ∀ j, bt ⟨(a.data.toList ++ (32 :: q :: (cs.flatten ++ q :: c :: r))).toArray⟩ (a.size + j) = (((32 :: q :: (cs.flatten ++ q :: c :: r))[j]?.getD 0).toNat : Int) := by
    intro j
    rw [bt_list, List.getElem?_append_right (by omega), hsz, Nat.add_sub_cancel_left]
  have hdrop : (a.data.toList ++ (32 :: q :: (cs.flatten ++ q :: c :: r))).drop (a.size + 1 + 1) = cs.flatten ++ q :: c :: r := by
    rw [Nat.add_assoc, ← hsz, List.drop_append, List.drop_eq_nil_of_le (by omega), Nat.add_sub_cancel_left, List.nil_append]
    rfl
  have hext : (⟨(a.data.toList ++ (32 :: q :: (cs.flatten ++ q :: c :: r))).toArray⟩ : ByteArray).extract (a.size + 1 + 1) (⟨(a.data.toList ++ (32 :: q :: (cs.flatten ++ q :: c :: r))).toArray⟩ : ByteArray).size = ⟨(cs.flatten ++ q :: c :: r).toArray⟩ := by
    rw [size_list (a.data.toList ++ (32 :: q :: (cs.flatten ++ q :: c :: r))), extract_list, hdrop]
  have hfl : (cs.flatten ++ q :: c :: r).length ≤ 1000000 := by
    simp only [List.length_append, List.length_cons] at hs ⊢
    omega
  have h1 := hback 1
  have h0 := hback 0
  refine ⟨by rw [size_list (a.data.toList ++ (32 :: q :: (cs.flatten ++ q :: c :: r)))]; omega, ?_, ?_, .inr ⟨cs.flatten.length + 1, by omega, by rw [size_list (a.data.toList ++ (32 :: q :: (cs.flatten ++ q :: c :: r)))]; omega, ?_⟩⟩
  · intro j hj
    by_cases e : j = a.size
    · subst e
      rw [Nat.add_zero] at h0
      have h00 : bt ⟨(a.data.toList ++ (32 :: q :: (cs.flatten ++ q :: c :: r))).toArray⟩ a.size = 32 := h0
      rw [h00]
      exact ⟨by decide, by decide⟩
    · rw [hat j (by omega)]
      exact ⟨ha.1 j (by omega), ha.2 j (by omega)⟩
  · rw [hext]
    rcases hq with ⟨rfl, hd⟩ | ⟨rfl, hd, hlast⟩
    · exact .inl ⟨h1, fun B bk W hB hbd => dq_any _ B bk 1000000 _ _ W hfl (by omega) hB hbd (reads_dchunks cs (c :: r) hd)⟩
    · exact .inr ⟨h1, fun B bk W hB hbd => sq_any _ B bk 1000000 _ _ W hfl (by omega) hB hbd (reads_schunks cs (c :: r) hd hlast)⟩
  · rw [show a.size + 1 + 1 + (cs.flatten.length + 1) = a.size + (2 + (cs.flatten.length + 1)) by omega, hback]
    have : (32 :: q :: (cs.flatten ++ q :: c :: r))[2 + (cs.flatten.length + 1)]? = some c := by
      rw [Nat.add_comm 2, List.getElem?_cons_succ, List.getElem?_cons_succ, List.getElem?_append_right (by omega), Nat.add_sub_cancel_left]
      rfl
    rw [this]
    exact hc
end Go.Proofs.Qxb6001659a.Glu
