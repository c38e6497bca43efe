/-
  THE PLAIN PART of 'FnReadPlainDecimalRendersBack': how a plain decimal is read; no Go in sight.
-/
namespace Go.Proofs.Qxb6601792a.Dec

/-- The reader over a list of bytes: i: the place; d: how many digits so far; p: where the point stood, -1 for none; u: the digits' value. -/
def scan (len : Nat) : Nat → List UInt8 → Nat → Int → Nat → Option (Nat × Int × Nat)
  | _, [], d, p, u => some (d, p, u)
  | i, c :: r, d, p, u =>
    if 48 ≤ c.toNat ∧ c.toNat ≤ 57 then scan len (i + 1) r (d + 1) p (u * 10 + (c.toNat - 48))
    else if c.toNat = 46 ∧ p < 0 ∧ 0 < i ∧ i + 1 < len then scan len (i + 1) r d (i : Int) u
    else none

theorem scan_digit {len i d u : Nat} {p : Int} {c : UInt8} {r : List UInt8} (h : 48 ≤ c.toNat ∧ c.toNat ≤ 57) : scan len i (c :: r) d p u = scan len (i + 1) r (d + 1) p (u * 10 + (c.toNat - 48)) := by
  rw [scan, if_pos h]
theorem scan_point {len i d u : Nat} {p : Int} {c : UInt8} {r : List UInt8} (hc : c.toNat = 46) (hp : p < 0) (h0 : 0 < i) (h1 : i + 1 < len) : scan len i (c :: r) d p u = scan len (i + 1) r d (i : Int) u := by
  rw [scan, if_neg (by omega), if_pos ⟨hc, hp, h0, h1⟩]
theorem scan_bad {len i d u : Nat} {p : Int} {c : UInt8} {r : List UInt8} (h : ¬ (48 ≤ c.toNat ∧ c.toNat ≤ 57)) (h' : ¬ (c.toNat = 46 ∧ p < 0 ∧ 0 < i ∧ i + 1 < len)) : scan len i (c :: r) d p u = none := by
  rw [scan, if_neg h, if_neg h']

/-- What holds of the reader's state at place i. -/
structure St (i d : Nat) (p : Int) (u : Nat) : Prop where
  lo : -1 ≤ p
  none : p < 0 → i = d
  some : 0 ≤ p → i = d + 1 ∧ 1 ≤ p ∧ p < i
  val : u < 10 ^ d

theorem St.digit {i d u c : Nat} {p : Int} (h : St i d p u) (hc : c ≤ 9) : St (i + 1) (d + 1) p (u * 10 + c) := by
  refine ⟨h.lo, fun hp => by have := h.none hp; omega, fun hp => ?_, ?_⟩
  · have := h.some hp; omega
  · have := h.val
    rw [Nat.pow_succ]
    omega

theorem St.point {i d u : Nat} {p : Int} (h : St i d p u) (hp : p < 0) (h0 : 0 < i) : St (i + 1) d (i : Int) u :=
  ⟨by omega, fun hp' => by omega, fun _ => by have := h.none hp; omega, h.val⟩

theorem St.start : St 0 0 (-1) 0 := ⟨by omega, fun _ => rfl, fun h => by omega, by simp⟩

theorem pow19 : (10 : Nat) ^ 19 = 10000000000000000000 := by decide

theorem pow_le19 {d : Nat} (h : d ≤ 19) : (10 : Nat) ^ d ≤ 10000000000000000000 := by
  rw [← pow19]
  exact Nat.pow_le_pow_right (by decide) h

theorem pow_le18 {d : Nat} (h : d ≤ 18) : (10 : Nat) ^ d ≤ 1000000000000000000 :=
  Nat.le_trans (Nat.pow_le_pow_right (by decide) h) (by decide)

/-- The places that the reader answers. -/
def placesOf (len : Nat) (p : Int) : Int := if 0 ≤ p then (len : Int) - p - 1 else 0

/-- A text that is read with at most 19 digits: its value is below 10^19, its places are 0 to 18. -/
theorem St.fits {len d u : Nat} {p : Int} (h : St len d p u) (h1 : d ≤ 19) : (u : Int) < 10000000000000000000 ∧ 0 ≤ placesOf len p ∧ placesOf len p ≤ 18 := by
  have hv := h.val
  have hp := pow_le19 h1
  refine ⟨by omega, ?_, ?_⟩
  · unfold placesOf
    split
    · rename_i h0; have := h.some h0; omega
    · omega
  · unfold placesOf
    split
    · rename_i h0; have := h.some h0; omega
    · omega

/-! ### the text that is written -/

/-- Digit j of u, as a byte. -/
def dig (u j : Nat) : UInt8 := UInt8.ofNat (48 + u / 10 ^ j % 10)
theorem dig_nat (u j : Nat) : (dig u j).toNat = 48 + u / 10 ^ j % 10 := by
  have : u / 10 ^ j % 10 < 10 := Nat.mod_lt _ (by decide)
  simp [dig]
  omega

/-- The digits of u from place i - 1 down to 0, a point ahead of place p - 1. -/
def text (u p : Nat) : Nat → List UInt8
  | 0 => []
  | i + 1 => (if 0 < p ∧ i + 1 = p then [46] else []) ++ dig u i :: text u p i

theorem text_len (u p : Nat) : ∀ i, (text u p i).length = i + (if 0 < p ∧ p ≤ i then 1 else 0)
  | 0 => by simp [text]; omega
  | i + 1 => by
    rw [text, List.length_append, List.length_cons, text_len u p i]
    by_cases h : 0 < p ∧ i + 1 = p
    · rw [if_pos h, if_neg (by omega), if_pos (by omega)]; simp; omega
    · rw [if_neg h]
      by_cases h2 : 0 < p ∧ p ≤ i
      · rw [if_pos h2, if_pos (by omega)]; simp
      · rw [if_neg h2, if_neg (by omega)]; simp

theorem div_step (u i : Nat) : u / 10 ^ (i + 1) * 10 + (48 + u / 10 ^ i % 10 - 48) = u / 10 ^ i := by
  rw [Nat.pow_succ, ← Nat.div_div_eq_div_mul]
  omega

/-- Behind the point nothing but digits. -/
theorem scan_digits (u p len : Nat) : ∀ i k d (pt : Int), (p = 0 ∨ i < p) → scan len k (text u p i) d pt (u / 10 ^ i) = some (d + i, pt, u)
  | 0, k, d, pt, _ => by simp [text, scan]
  | i + 1, k, d, pt, h => by
    rw [text, if_neg (by omega), List.nil_append, scan_digit (by rw [dig_nat]; have : u / 10 ^ i % 10 < 10 := Nat.mod_lt _ (by decide); omega), dig_nat, div_step, scan_digits u p len i (k + 1) (d + 1) pt (by omega)]
    congr 2
    omega

/-- The digits ahead of the point. -/
theorem scan_text (u p n : Nat) (hp : 0 < p) (hn : p + 1 ≤ n) : ∀ i, p ≤ i → i ≤ n → scan (n + 1) (n - i) (text u p i) (n - i) (-1) (u / 10 ^ i) = some (n, ((n - p : Nat) : Int), u)
  | 0, h, _ => by omega
  | i + 1, h, hin => by
    by_cases e : i + 1 = p
    · rw [text, if_pos ⟨hp, e⟩]
      show scan (n + 1) (n - (i + 1)) (46 :: dig u i :: text u p i) _ _ _ = _
      rw [scan_point rfl (by omega) (by omega) (by omega), scan_digit (by rw [dig_nat]; have : u / 10 ^ i % 10 < 10 := Nat.mod_lt _ (by decide); omega), dig_nat, div_step, scan_digits u p _ i _ _ _ (by omega)]
      congr 2
      · omega
      · rw [e]
    · rw [text, if_neg (by omega), List.nil_append, scan_digit (by rw [dig_nat]; have : u / 10 ^ i % 10 < 10 := Nat.mod_lt _ (by decide); omega), dig_nat, div_step]
      have := scan_text u p n hp hn i (by omega) (by omega)
      rw [show n - i = n - (i + 1) + 1 by omega] at this
      exact this

/-- The whole text of n digits: read back it gives n digits, the point, the value. -/
theorem scan_whole (u p n : Nat) (hn : p + 1 ≤ n) (hu : u < 10 ^ n) : ∃ pt : Int, scan (text u p n).length 0 (text u p n) 0 (-1) 0 = some (n, pt, u) ∧ placesOf (text u p n).length pt = (p : Int) := by
  have h0 : u / 10 ^ n = 0 := Nat.div_eq_of_lt hu
  rw [text_len]
  by_cases hp : 0 < p
  · refine ⟨((n - p : Nat) : Int), ?_, ?_⟩
    · have := scan_text u p n hp hn n (by omega) (Nat.le_refl _)
      rw [Nat.sub_self, h0] at this
      rw [if_pos (by omega)]
      exact this
    · rw [if_pos (by omega), placesOf, if_pos (by omega)]
      omega
  · refine ⟨-1, ?_, ?_⟩
    · have := scan_digits u p (n + 0) n 0 0 (-1) (by omega)
      rw [h0] at this
      rw [if_neg (by omega)]
      simpa using this
    · rw [placesOf, if_neg (by omega)]
      omega

/-- The first byte of the text is a digit. -/
theorem text_head (u p n : Nat) (hn : p + 1 ≤ n) : ∃ r, text u p n = dig u (n - 1) :: r := by
  match n, hn with
  | i + 1, hn =>
    refine ⟨text u p i, ?_⟩
    rw [text, if_neg (by omega)]
    simp

end Go.Proofs.Qxb6601792a.Dec
