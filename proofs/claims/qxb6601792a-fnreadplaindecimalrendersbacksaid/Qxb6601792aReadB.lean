/-
  THE WALKS of 'FnReadPlainDecimalRendersBack': readPlainDecimal (12), ZZreadPlainDecimal (7).
-/
import Derived.Test.Qxb6601792aReadA
namespace Go.Proofs.Qxb6601792a.Dec
open Go.RowKit

def bt (s : ByteArray) (k : Nat) (h : k < s.size) : UInt8 := s[k]'h

theorem drop_cons (s : ByteArray) (k : Nat) (h : k < s.size) : s.data.toList.drop k = s[k]'h :: s.data.toList.drop (k + 1) := by
  rw [List.drop_eq_getElem_cons (by simpa using h)]; rfl

/-- The answer of a refusal. -/
def badV : Value := .tuple #[.agg #[.bool false, .int .u64 0, .int .i32 0, .bool false], .bool false]

/-- What the reader answers on the unsigned text us. -/
def ReadPost (us : ByteArray) (neg : Bool) (e : Ending) : Prop :=
  (e = .returned badV ∧ ∀ d p u, scan us.size 0 us.data.toList 0 (-1) 0 = some (d, p, u) → d = 0) ∨
  ∃ (d : Nat) (p : Int) (u : Nat) (q : Int), scan us.size 0 us.data.toList 0 (-1) 0 = some (d, p, u) ∧ 0 < d ∧ St us.size d p u ∧ (d ≤ 19 → q = u) ∧
    e = .returned (.tuple #[.agg #[.bool neg, .int .u64 q, .int .i32 (placesOf us.size p), .bool (decide ((d : Int) ≤ 19))], .bool true])

/-- What the reader answers on s. -/
def ReadAll (s : ByteArray) (e : Ending) : Prop := ∃ us neg, UnsignedOf s neg us ∧ ReadPost us neg e

theorem next_units {q : Int} {u d c : Nat} (hq : d ≤ 19 → q = u) (hu : u < 10 ^ d) (h1 : 48 ≤ c) (h2 : c ≤ 57) : d + 1 ≤ 19 → IntKind.u64.wrap (IntKind.u64.wrap (q * 10) + ((c : Int) - 48)) = ((u * 10 + (c - 48) : Nat) : Int) := by
  intro h
  have e := hq (by omega)
  subst e
  have hp := pow_le18 (d := d) (by omega)
  rw [IntKind.wrap_u64, IntKind.wrap_u64]
  omega

set_option maxHeartbeats 1000000 in
theorem read_any (s : ByteArray) (w : World) (hs : s.size ≤ 1048576) :
    Calls Try.prog 12 #[.string s] w fun e w' => ReadAll s e ∧ Below w.heap.size w w' := by
  go_enter Try.func12, Try.ntmps12
  go_wp2_with fail
  refine (cut_any s _ (by unfold maxLen; omega)).mono ?_
  rintro e w1 ⟨⟨us, neg, rfl, hu⟩, rfl⟩
  have hus : us.size ≤ 1048576 := by
    rcases hu with ⟨_, h⟩ | ⟨_, h, _⟩
    · have := congrArg List.length h
      simp at this
      omega
    · rw [h]; exact hs
  have HU : Hid (UnsignedOf s neg us) := hu
  clear hu
  go_wp2
  go_loopw [6, 7, 8] (fun di pt i wr => ∃ (k d : Nat) (p q : Int) (u : Nat), k ≤ us.size ∧ i = .int .i64 k ∧ di = .int .i64 d ∧ pt = .int .i64 p ∧ St k d p u ∧ (d ≤ 19 → q = u) ∧ Hid (scan us.size k (us.data.toList.drop k) d p u = scan us.size 0 us.data.toList 0 (-1) 0) ∧ wr = w.alloc (.cells #[.bool false, .int .u64 q, .int .i32 0, .bool false] 28)) (fun _ _ i _ => us.size - (intOf i).toNat)
  case atStart => exact ⟨0, 0, -1, 0, 0, Nat.zero_le _, rfl, rfl, rfl, St.start, fun _ => rfl, rfl, rfl⟩
  case round =>
    obtain ⟨k, d, p, q, u, hk, rfl, rfl, rfl, hst, hq, hsc, rfl⟩ := hrel
    have hdk : d ≤ k := by
      by_cases h : p < 0
      · have := hst.none h; omega
      · have := hst.some (by omega); omega
    have hplo := hst.lo
    have HQ : Hid (d ≤ 19 → q = u) := hq
    clear hq
    by_cases hlt : k < us.size
    · have hd := drop_cons us k hlt
      obtain ⟨c, hc⟩ : ∃ c, c = us[k]'hlt := ⟨_, rfl⟩
      have ec : ((us[k]'hlt).toNat : Int) = (c.toNat : Int) := by rw [hc]
      rw [← hc] at hd
      have hsc' := hsc.out
      rw [hd] at hsc'
      have HSC : Hid (scan us.size k (c :: us.data.toList.drop (k + 1)) d p u = scan us.size 0 us.data.toList 0 (-1) 0) := hsc'
      clear hsc' hsc hd hc
      by_cases hdig : 48 ≤ c.toNat ∧ c.toNat ≤ 57
      · have i1 : (48 : Int) ≤ (c.toNat : Int) := by omega
        have i2 : (c.toNat : Int) ≤ 57 := by omega
        go_wp2
        go_roundw
        case rel => exact ⟨k + 1, d + 1, p, _, u * 10 + (c.toNat - 48), by omega, by go_num, by go_num, rfl, hst.digit (by omega), next_units HQ.out hst.val hdig.1 hdig.2, by rw [← HSC.out, scan_digit hdig]; rfl, rfl⟩
        case measure => simp [intOf]; omega
      · by_cases hpt : c.toNat = 46 ∧ p < 0 ∧ 0 < k ∧ k + 1 < us.size
        · obtain ⟨h46, hp0, hk0, hk1⟩ := hpt
          have i46 : (c.toNat : Int) = 46 := by omega
          rw [i46] at ec
          have j1 : (0 : Int) < (k : Int) := by omega
          have j2 : (k : Int) < (us.size : Int) - 1 := by omega
          go_wp2
          go_roundw
          case rel => exact ⟨k + 1, d, k, q, u, by omega, by go_num, rfl, rfl, hst.point hp0 hk0, HQ.out, by rw [← HSC.out, scan_point h46 hp0 hk0 hk1]; rfl, rfl⟩
          case measure => simp [intOf]; omega
        · -- refused
          have hbad : ReadPost us neg (.returned badV) := .inl ⟨rfl, fun d' p' u' h => by rw [← HSC.out, scan_bad hdig hpt] at h; cases h⟩
          have FIN : Hid (ReadAll s (.returned badV)) := ⟨us, neg, HU.out, hbad⟩
          clear hbad HSC HQ
          have n48 : (decide ((48 : Int) ≤ (c.toNat : Int)) && decide ((c.toNat : Int) ≤ 57)) = false := by simp; omega
          go_wp2
          all_goals exact bodyPost_ret (v := badV) (by simp [results, Try.results12, go_sem, badV]) rfl ⟨FIN.out, (Below.refl _ _).alloc (Nat.le_refl _) _⟩
    · have hkl : k = us.size := by omega
      subst hkl
      have hsc' := hsc.out
      rw [List.drop_eq_nil_of_le (by simp), scan] at hsc'
      have HSC : Hid (scan us.size 0 us.data.toList 0 (-1) 0 = some (d, p, u)) := hsc'.symm
      clear hsc' hsc
      by_cases hd0 : d = 0
      · have hbad : ReadPost us neg (.returned badV) := .inl ⟨rfl, fun d' p' u' h => by rw [HSC.out] at h; simp at h; omega⟩
        have FIN : Hid (ReadAll s (.returned badV)) := ⟨us, neg, HU.out, hbad⟩
        have hd1 : ((d : Int) == 0) = true := by simp; omega
        clear hbad HSC HQ
        go_wp2
        exact bodyPost_ret (v := badV) (by simp [results, Try.results12, go_sem, badV]) rfl ⟨FIN.out, (Below.refl _ _).alloc (Nat.le_refl _) _⟩
      · have hd1 : ((d : Int) == 0) = false := by simp; omega
        have FIN : Hid (ReadAll s (.returned (.tuple #[.agg #[.bool neg, .int .u64 q, .int .i32 (placesOf us.size p), .bool (decide ((d : Int) ≤ 19))], .bool true]))) :=
          ⟨us, neg, HU.out, .inr ⟨d, p, u, q, HSC.out, by omega, hst, HQ.out, rfl⟩⟩
        by_cases hp0 : 0 ≤ p
        · have hp1 := (hst.some hp0).2.1
          have hp2 := (hst.some hp0).2.2
          have e1 : placesOf us.size p = (us.size : Int) - p - 1 := by rw [placesOf, if_pos hp0]
          rw [e1] at FIN
          have b1 : (0 : Int) ≤ (us.size : Int) - p - 1 := by omega
          have b2 : (us.size : Int) - p - 1 ≤ 1048576 := by omega
          clear HSC HQ e1
          go_wp2
          exact bodyPost_ret (v := .tuple #[.agg #[.bool neg, .int .u64 q, .int .i32 ((us.size : Int) - p - 1), .bool (decide ((d : Int) ≤ 19))], .bool true]) (by simp [results, Try.results12, go_sem]) rfl ⟨FIN.out, (Below.refl _ _).alloc (Nat.le_refl _) _⟩
        · have e1 : placesOf us.size p = 0 := by rw [placesOf, if_neg hp0]
          rw [e1] at FIN
          clear HSC HQ e1
          go_wp2
          exact bodyPost_ret (v := .tuple #[.agg #[.bool neg, .int .u64 q, .int .i32 0, .bool (decide ((d : Int) ≤ 19))], .bool true]) (by simp [results, Try.results12, go_sem]) rfl ⟨FIN.out, (Below.refl _ _).alloc (Nat.le_refl _) _⟩

/-- What ZZreadPlainDecimal answers on s. -/
def FivePost (us : ByteArray) (neg : Bool) (e : Ending) : Prop :=
  (e = .returned (.tuple #[.bool false, .int .u64 0, .int .i32 0, .bool false, .bool false]) ∧ ∀ d p u, scan us.size 0 us.data.toList 0 (-1) 0 = some (d, p, u) → d = 0) ∨
  ∃ (d : Nat) (p : Int) (u : Nat) (q : Int), scan us.size 0 us.data.toList 0 (-1) 0 = some (d, p, u) ∧ 0 < d ∧ St us.size d p u ∧ (d ≤ 19 → q = u) ∧
    e = .returned (.tuple #[.bool neg, .int .u64 q, .int .i32 (placesOf us.size p), .bool (decide ((d : Int) ≤ 19)), .bool true])
def FiveAll (s : ByteArray) (e : Ending) : Prop := ∃ us neg, UnsignedOf s neg us ∧ FivePost us neg e

set_option maxHeartbeats 1000000 in
theorem five_any (s : ByteArray) (w : World) (hs : s.size ≤ 1048576) : Calls Try.prog 7 #[.string s] w fun e w' => FiveAll s e ∧ Below w.heap.size w w' := by
  go_enter Try.func7, Try.ntmps7
  go_wp2_with fail
  refine (read_any s _ hs).mono ?_
  rintro e w1 ⟨⟨us, neg, hu, hr⟩, hB⟩
  have hs1 := hB.size
  rcases hr with ⟨rfl, hbad⟩ | ⟨d, p, u, q, hsc, hd, hst, hq, rfl⟩
  · have FIN : Hid (FiveAll s (.returned (.tuple #[.bool false, .int .u64 0, .int .i32 0, .bool false, .bool false]))) := ⟨us, neg, hu, .inl ⟨rfl, hbad⟩⟩
    clear hu hbad
    unfold badV
    go_wp2
    go_quiet (fail)
    go_wp2
    exact bodyPost_ret (v := .tuple #[.bool false, .int .u64 0, .int .i32 0, .bool false, .bool false]) (by simp [results, Try.results7, go_sem]) rfl ⟨FIN.out, below_drewN ((hB.alloc hs1 _)) _⟩
  · have FIN : Hid (FiveAll s (.returned (.tuple #[.bool neg, .int .u64 q, .int .i32 (placesOf us.size p), .bool (decide ((d : Int) ≤ 19)), .bool true]))) := ⟨us, neg, hu, .inr ⟨d, p, u, q, hsc, hd, hst, hq, rfl⟩⟩
    clear hu hsc hst hq
    obtain ⟨pl, hpl⟩ : ∃ pl, pl = placesOf us.size p := ⟨_, rfl⟩
    rw [← hpl] at FIN ⊢
    clear hpl
    go_wp2
    go_quiet (fail)
    go_wp2
    exact bodyPost_ret (v := .tuple #[.bool neg, .int .u64 q, .int .i32 pl, .bool (decide ((d : Int) ≤ 19)), .bool true]) (by simp [results, Try.results7, go_sem]) rfl ⟨FIN.out, below_drewN ((hB.alloc hs1 _)) _⟩
end Go.Proofs.Qxb6601792a.Dec
