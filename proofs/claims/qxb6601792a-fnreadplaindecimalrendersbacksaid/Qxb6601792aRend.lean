/-
  THE WALK of renderPlainDecimal (10).
-/
import Derived.Test.Qxb6601792aReadB
namespace Go.Proofs.Qxb6601792a.Dec
open Go.RowKit

/-- The first j digits lie in the row. -/
def Digs (u n : Nat) (A : Array Value) : Prop := A.size = 24 ∧ ∀ j, j < n → A[j]? = some (.int .u8 ((dig u j).toNat : Int))

theorem Digs.put {u n : Nat} {A : Array Value} {x : Int} (h : Digs u n A) (hn : n < 24) (hx : x = ((u / 10 ^ n : Nat) : Int)) : Digs u (n + 1) (A.setIfInBounds n (.int .u8 (48 + x % 10))) := by
  refine ⟨by simpa using h.1, fun j hj => ?_⟩
  rw [Array.getElem?_setIfInBounds]
  by_cases e : n = j
  · subst e
    rw [if_pos rfl, if_pos (by rw [h.1]; exact hn), dig_nat, hx]
    congr 2
  · rw [if_neg e]
    exact h.2 j (by omega)

theorem Digs.at {u n : Nat} {A : Array Value} (h : Digs u n A) (j : Nat) (hj : j < 24) : ∃ v, A[j]? = some v := ⟨_, Array.getElem?_eq_getElem (by rw [h.1]; exact hj)⟩

theorem div_next {u n : Nat} {x : Int} (hx : x = ((u / 10 ^ n : Nat) : Int)) : x / 10 = ((u / 10 ^ (n + 1) : Nat) : Int) := by
  rw [Nat.pow_succ, ← Nat.div_div_eq_div_mul, hx]
  omega

theorem more_digits {u n : Nat} {x : Int} (hx : x = ((u / 10 ^ n : Nat) : Int)) (hu : u < 10000000000000000000) (h0 : 0 < x) : n < 19 := by
  rcases Nat.lt_or_ge n 19 with h | h
  · exact h
  · have h1 : (10 : Nat) ^ 19 ≤ 10 ^ n := Nat.pow_le_pow_right (by decide) h
    rw [pow19] at h1
    have : u / 10 ^ n = 0 := Nat.div_eq_of_lt (by omega)
    omega

theorem no_more {u n : Nat} {x : Int} (hx : x = ((u / 10 ^ n : Nat) : Int)) (h0 : x = 0) : u < 10 ^ n := by
  have : u / 10 ^ n = 0 := by omega
  rcases Nat.div_eq_zero_iff.1 this with h | h
  · exact absurd h (Nat.ne_of_gt (Nat.pow_pos (by decide)))
  · exact h

/-- The bytes E lie at the head of the row C. -/
def Outs (E : List UInt8) (C : Array Value) : Prop := C.size = 32 ∧ ∀ j (h : j < E.length), C[j]? = some (.int .u8 (E[j].toNat : Int))

theorem Outs.put {E : List UInt8} {C : Array Value} (h : Outs E C) (b : UInt8) (hl : E.length < 32) : Outs (E ++ [b]) (C.setIfInBounds E.length (.int .u8 (b.toNat : Int))) := by
  refine ⟨by simpa using h.1, fun j hj => ?_⟩
  rw [Array.getElem?_setIfInBounds]
  by_cases e : E.length = j
  · subst e
    rw [if_pos rfl, if_pos (by rw [h.1]; exact hl)]
    simp
  · have hj' : j < E.length := by simp at hj; omega
    rw [if_neg e, h.2 j hj', List.getElem_append_left hj']

theorem Outs.at {E : List UInt8} {C : Array Value} (h : Outs E C) (j : Nat) (hj : j < 32) : ∃ v, C[j]? = some v := ⟨_, Array.getElem?_eq_getElem (by rw [h.1]; exact hj)⟩

def sign (neg : Bool) : List UInt8 := if neg then [45] else []
def RendPost (neg : Bool) (u p : Nat) (e : Ending) : Prop := ∃ n, p + 1 ≤ n ∧ u < 10 ^ n ∧ n ≤ 19 ∧ e = .returned (.string ⟨(sign neg ++ text u p n).toArray⟩)

set_option maxHeartbeats 1000000 in
set_option maxRecDepth 100000 in
theorem rend_any (neg : Bool) (u p : Nat) (ui : Int) (hui : ui = (u : Int)) (w : World) (hu : u < 10000000000000000000) (hp : p ≤ 18) :
    Calls Try.prog 10 #[.bool neg, .int .u64 ui, .int .i32 (p : Int)] w fun e w' => RendPost neg u p e ∧ Below w.heap.size w w' := by
  have HUB : Hid (u < 10000000000000000000 ∧ ui = (u : Int)) := ⟨hu, hui⟩
  have hu0 : 0 ≤ ui := by omega
  have hu1 : ui < 10000000000000000000 := by omega
  clear hu hui
  go_enter Try.func10, Try.ntmps10
  go_wp2
  go_loopw [1, 8] (fun un i wr => ∃ (n : Nat) (x : Int) (A : Array Value), n ≤ 19 ∧ i = .int .i64 n ∧ un = .int .u64 x ∧ Hid (x = ((u / 10 ^ n : Nat) : Int)) ∧ Digs u n A ∧ wr = w.alloc (.cells A 31)) (fun _ i _ => 24 - (intOf i).toNat)
  case atStart => exact ⟨0, ui, _, by omega, rfl, rfl, by rw [HUB.out.2]; simp [Hid], ⟨rfl, fun j hj => absurd hj (Nat.not_lt_zero j)⟩, rfl⟩
  case round =>
    obtain ⟨n, x, A, hn, rfl, rfl, HX, HA, rfl⟩ := hrel
    have hx0 : 0 ≤ x := by rw [HX.out]; exact Int.natCast_nonneg _
    have hxb : x < 10000000000000000000 := by
      rw [HX.out]
      exact Int.ofNat_lt.2 (Nat.lt_of_le_of_lt (Nat.div_le_self u (10 ^ n)) HUB.out.1)
    have hn' : (n : Int) < 24 := by omega
    have hnn : (0 : Int) ≤ (n : Int) := by omega
    have hasz : A.size = 24 := HA.1
    obtain ⟨v0, hv0⟩ := HA.at n (by omega)
    by_cases hx1 : 0 < x
    · have hlt := more_digits HX.out HUB.out.1 hx1
      go_wp2
      go_roundw
      case rel => exact ⟨n + 1, x / 10, _, by omega, by go_num, rfl, div_next HX.out, HA.put (by omega) HX.out, rfl⟩
      case measure => simp [intOf]; omega
    · have hxz : decide (0 < x) = false := decide_eq_false hx1
      by_cases hnp : n < p + 1
      · have hnp' : (n : Int) < (p : Int) + 1 := by omega
        go_wp2
        go_roundw
        case rel => exact ⟨n + 1, x / 10, _, by omega, by go_num, rfl, div_next HX.out, HA.put (by omega) HX.out, rfl⟩
        case measure => simp [intOf]; omega
      · have hun := no_more HX.out (by omega)
        have HN : Hid (u < 10 ^ n ∧ p + 1 ≤ n ∧ n ≤ 19) := ⟨hun, by omega, hn⟩
        have hn1 : p + 1 ≤ n := by omega
        have hsg : (sign neg).length ≤ 1 := by cases neg <;> simp [sign]
        have htl : (text u p n).length ≤ n + 1 := by rw [text_len]; split <;> omega
        have hA' : Hid (∀ j, j < n → A[j]? = some (.int .u8 ((dig u j).toNat : Int))) := HA.2
        obtain ⟨Z, hZ⟩ : ∃ Z : Array Value, Z = Array.replicate 32 (.int .u8 0) := ⟨_, rfl⟩
        have hZ0 : Outs [] Z := ⟨by rw [hZ]; rfl, fun j hj => absurd hj (Nat.not_lt_zero j)⟩
        have hZ1 : Outs [45] (Z.setIfInBounds 0 (.int .u8 45)) := hZ0.put 45 (by decide)
        have HZ : Hid (Z = Array.replicate 32 (.int .u8 0)) := hZ
        clear hun hv0 HX hxb hx0 hZ HA
        have fin : ∀ (E : List UInt8) (C : Array Value), Outs E C → E = sign neg ++ text u p n → (convert 33 9 (.slice (some ⟨w.heap.size + 1, 0, none⟩) E.length 32)).run Try.prog ((w.alloc (.cells A 31)).alloc (.cells C 32)) = .ok (.string ⟨(sign neg ++ text u p n).toArray⟩) ((w.alloc (.cells A 31)).alloc (.cells C 32)) := by
          intro E C hO hE
          rw [← hE]
          refine run_convert_bytes_back _ 33 9 5 ⟨w.heap.size + 1, 0, none⟩ 32 E Try.underlying33 Try.underlying5 Try.underlying9 fun j hj => ?_
          rw [show (⟨w.heap.size + 1, 0, none⟩ : Addr).add j = ⟨w.heap.size + 1, j, none⟩ by unfold Addr.add; split <;> simp_all]
          rw [World.cell?_alloc_at _ _ _ _ (by simp)]
          exact hO.2 j hj
        have FIN : Hid (∀ (E : List UInt8) (C : Array Value), Outs E C → E = sign neg ++ text u p n → (convert 33 9 (.slice (some ⟨w.heap.size + 1, 0, none⟩) E.length 32)).run Try.prog ((w.alloc (.cells A 31)).alloc (.cells C 32)) = .ok (.string ⟨(sign neg ++ text u p n).toArray⟩) ((w.alloc (.cells A 31)).alloc (.cells C 32))) := fin
        clear fin
        cases neg
        · go_wp2
          go_loopw [10, 11] (fun kk ii wr => ∃ (m : Nat) (i : Int) (E : List UInt8) (C : Array Value), m ≤ n ∧ ii = .int .i64 i ∧ Hid (i + 1 = m) ∧ kk = .int .i64 (E.length : Int) ∧ Hid (E ++ text u p m = sign false ++ text u p n) ∧ Outs E C ∧ wr = (w.alloc (.cells A 31)).alloc (.cells C 32)) (fun _ ii _ => (intOf ii + 1).toNat)
          case atStart => exact ⟨n, (n : Int) - 1, [], Z, Nat.le_refl _, rfl, by show (n : Int) - 1 + 1 = n; omega, rfl, rfl, hZ0, by rw [HZ.out]; rfl⟩
          case round =>
            obtain ⟨m, i, E, C, hmn, rfl, HI, rfl, HE, hO, rfl⟩ := hrel
            have hEl : E.length + m ≤ 21 := by
              have h1 := congrArg List.length HE.out
              rw [List.length_append, List.length_append] at h1
              have h2 : m ≤ (text u p m).length := by rw [text_len]; omega
              omega
            have hcsz : C.size = 32 := hO.1
            by_cases hm0 : m = 0
            · have hi : i < 0 := by have := HI.out; omega
              have hE : E = sign false ++ text u p n := by have := HE.out; rw [hm0, text, List.append_nil] at this; exact this
              have hcv := FIN.out E C hO hE
              have r1 : (E.length : Int) ≤ 32 := by omega
              have RP : Hid (RendPost false u p (.returned (.string ⟨(sign false ++ text u p n).toArray⟩))) := ⟨n, HN.out.2.1, HN.out.1, HN.out.2.2, rfl⟩
              have hEL : Hid (E = sign false ++ text u p n) := hE
              clear hE HE HI hA' FIN
              go_wp2
              go_ret
              exact ⟨RP.out, ((Below.refl _ _).alloc (Nat.le_refl _) _).alloc (by simp) _⟩
            · obtain ⟨m', rfl⟩ : ∃ m', m = m' + 1 := ⟨m - 1, by omega⟩
              have hi : i = (m' : Int) := by have := HI.out; omega
              subst hi
              have hd := hA'.out m' (by omega)
              obtain ⟨v0, hv0⟩ := hO.at E.length (by omega)
              have k0 : (0 : Int) ≤ (E.length : Int) := by omega
              have k1 : (E.length : Int) < 32 := by omega
              have m0 : (0 : Int) ≤ (m' : Int) := by omega
              have m1 : (m' : Int) < 24 := by omega
              by_cases hpt : 0 < p ∧ m' + 1 = p
              · have HE' : Hid ((E ++ [46]) ++ [dig u m'] ++ text u p m' = sign false ++ text u p n) := by
                  have := HE.out
                  rw [text, if_pos hpt] at this
                  show (E ++ [46]) ++ [dig u m'] ++ text u p m' = _
                  rw [← this]
                  simp
                have hO1 := hO.put 46 (by omega)
                have hO2 := hO1.put (dig u m') (by simp; omega)
                obtain ⟨v1, hv1⟩ := hO.at (E.length + 1) (by omega)
                have p0 : (0 : Int) < (p : Int) := by omega
                have p1 : ((m' : Int) == (p : Int) - 1) = true := by simp; omega
                have HO2 : Hid (Outs (E ++ [46] ++ [dig u m']) ((C.setIfInBounds E.length (.int .u8 46)).setIfInBounds (E.length + 1) (.int .u8 ((dig u m').toNat : Int)))) := by
                  show Outs _ _
                  simpa using hO2
                clear hO1 hO2 HE hO hA' FIN HI hpt
                go_wp2
                go_roundw
                case rel => exact ⟨m', (m' : Int) - 1, E ++ [46] ++ [dig u m'], _, by omega, rfl, by show (m' : Int) - 1 + 1 = m'; omega, congrArg (Value.int .i64) (by first | (simp; done) | (simp; omega)), HE', HO2, rfl⟩
                case measure => first | (simp [intOf]; done) | (simp [intOf]; omega)
              · have HE' : Hid (E ++ [dig u m'] ++ text u p m' = sign false ++ text u p n) := by
                  have := HE.out
                  rw [text, if_neg hpt] at this
                  show E ++ [dig u m'] ++ text u p m' = _
                  rw [← this]
                  simp
                have HO2 : Hid (Outs (E ++ [dig u m']) (C.setIfInBounds E.length (.int .u8 ((dig u m').toNat : Int)))) := hO.put (dig u m') (by omega)
                clear HE hO hA' FIN HI
                by_cases hp0 : 0 < p
                · have p0 : (0 : Int) < (p : Int) := by omega
                  have p1 : ((m' : Int) == (p : Int) - 1) = false := by simp; omega
                  clear hpt hp0
                  go_wp2
                  go_roundw
                  case rel => exact ⟨m', (m' : Int) - 1, E ++ [dig u m'], _, by omega, rfl, by show (m' : Int) - 1 + 1 = m'; omega, congrArg (Value.int .i64) (by first | (simp; done) | (simp; omega)), HE', HO2, rfl⟩
                  case measure => first | (simp [intOf]; done) | (simp [intOf]; omega)
                · have p0 : ¬ 0 < p := hp0
                  clear hpt hp0
                  go_wp2
                  go_roundw
                  case rel => exact ⟨m', (m' : Int) - 1, E ++ [dig u m'], _, by omega, rfl, by show (m' : Int) - 1 + 1 = m'; omega, congrArg (Value.int .i64) (by first | (simp; done) | (simp; omega)), HE', HO2, rfl⟩
                  case measure => first | (simp [intOf]; done) | (simp [intOf]; omega)
        · go_wp2
          go_loopw [10, 11] (fun kk ii wr => ∃ (m : Nat) (i : Int) (E : List UInt8) (C : Array Value), m ≤ n ∧ ii = .int .i64 i ∧ Hid (i + 1 = m) ∧ kk = .int .i64 (E.length : Int) ∧ Hid (E ++ text u p m = sign true ++ text u p n) ∧ Outs E C ∧ wr = (w.alloc (.cells A 31)).alloc (.cells C 32)) (fun _ ii _ => (intOf ii + 1).toNat)
          case atStart => exact ⟨n, (n : Int) - 1, [45], Z.setIfInBounds 0 (.int .u8 45), Nat.le_refl _, rfl, by show (n : Int) - 1 + 1 = n; omega, rfl, rfl, hZ1, by rw [HZ.out]; rfl⟩
          case round =>
            obtain ⟨m, i, E, C, hmn, rfl, HI, rfl, HE, hO, rfl⟩ := hrel
            have hEl : E.length + m ≤ 21 := by
              have h1 := congrArg List.length HE.out
              rw [List.length_append, List.length_append] at h1
              have h2 : m ≤ (text u p m).length := by rw [text_len]; omega
              omega
            have hcsz : C.size = 32 := hO.1
            by_cases hm0 : m = 0
            · have hi : i < 0 := by have := HI.out; omega
              have hE : E = sign true ++ text u p n := by have := HE.out; rw [hm0, text, List.append_nil] at this; exact this
              have hcv := FIN.out E C hO hE
              have r1 : (E.length : Int) ≤ 32 := by omega
              have RP : Hid (RendPost true u p (.returned (.string ⟨(sign true ++ text u p n).toArray⟩))) := ⟨n, HN.out.2.1, HN.out.1, HN.out.2.2, rfl⟩
              have hEL : Hid (E = sign true ++ text u p n) := hE
              clear hE HE HI hA' FIN
              go_wp2
              go_ret
              exact ⟨RP.out, ((Below.refl _ _).alloc (Nat.le_refl _) _).alloc (by simp) _⟩
            · obtain ⟨m', rfl⟩ : ∃ m', m = m' + 1 := ⟨m - 1, by omega⟩
              have hi : i = (m' : Int) := by have := HI.out; omega
              subst hi
              have hd := hA'.out m' (by omega)
              obtain ⟨v0, hv0⟩ := hO.at E.length (by omega)
              have k0 : (0 : Int) ≤ (E.length : Int) := by omega
              have k1 : (E.length : Int) < 32 := by omega
              have m0 : (0 : Int) ≤ (m' : Int) := by omega
              have m1 : (m' : Int) < 24 := by omega
              by_cases hpt : 0 < p ∧ m' + 1 = p
              · have HE' : Hid ((E ++ [46]) ++ [dig u m'] ++ text u p m' = sign true ++ text u p n) := by
                  have := HE.out
                  rw [text, if_pos hpt] at this
                  show (E ++ [46]) ++ [dig u m'] ++ text u p m' = _
                  rw [← this]
                  simp
                have hO1 := hO.put 46 (by omega)
                have hO2 := hO1.put (dig u m') (by simp; omega)
                obtain ⟨v1, hv1⟩ := hO.at (E.length + 1) (by omega)
                have p0 : (0 : Int) < (p : Int) := by omega
                have p1 : ((m' : Int) == (p : Int) - 1) = true := by simp; omega
                have HO2 : Hid (Outs (E ++ [46] ++ [dig u m']) ((C.setIfInBounds E.length (.int .u8 46)).setIfInBounds (E.length + 1) (.int .u8 ((dig u m').toNat : Int)))) := by
                  show Outs _ _
                  simpa using hO2
                clear hO1 hO2 HE hO hA' FIN HI hpt
                go_wp2
                go_roundw
                case rel => exact ⟨m', (m' : Int) - 1, E ++ [46] ++ [dig u m'], _, by omega, rfl, by show (m' : Int) - 1 + 1 = m'; omega, congrArg (Value.int .i64) (by first | (simp; done) | (simp; omega)), HE', HO2, rfl⟩
                case measure => first | (simp [intOf]; done) | (simp [intOf]; omega)
              · have HE' : Hid (E ++ [dig u m'] ++ text u p m' = sign true ++ text u p n) := by
                  have := HE.out
                  rw [text, if_neg hpt] at this
                  show E ++ [dig u m'] ++ text u p m' = _
                  rw [← this]
                  simp
                have HO2 : Hid (Outs (E ++ [dig u m']) (C.setIfInBounds E.length (.int .u8 ((dig u m').toNat : Int)))) := hO.put (dig u m') (by omega)
                clear HE hO hA' FIN HI
                by_cases hp0 : 0 < p
                · have p0 : (0 : Int) < (p : Int) := by omega
                  have p1 : ((m' : Int) == (p : Int) - 1) = false := by simp; omega
                  clear hpt hp0
                  go_wp2
                  go_roundw
                  case rel => exact ⟨m', (m' : Int) - 1, E ++ [dig u m'], _, by omega, rfl, by show (m' : Int) - 1 + 1 = m'; omega, congrArg (Value.int .i64) (by first | (simp; done) | (simp; omega)), HE', HO2, rfl⟩
                  case measure => first | (simp [intOf]; done) | (simp [intOf]; omega)
                · have p0 : ¬ 0 < p := hp0
                  clear hpt hp0
                  go_wp2
                  go_roundw
                  case rel => exact ⟨m', (m' : Int) - 1, E ++ [dig u m'], _, by omega, rfl, by show (m' : Int) - 1 + 1 = m'; omega, congrArg (Value.int .i64) (by first | (simp; done) | (simp; omega)), HE', HO2, rfl⟩
                  case measure => first | (simp [intOf]; done) | (simp [intOf]; omega)
end Go.Proofs.Qxb6601792a.Dec
