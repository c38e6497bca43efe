/-
  THE WALK of 'FnApplyGeographicAndMobileAgree' (5).
-/
import Derived.Test.Qxb6601574aSetB
namespace Go.Proofs.Qxb6601574a.App
open Go.RowKit Go.Maps

set_option maxHeartbeats 2000000 in
theorem law_any (x y : ByteArray) (a1 : Option Addr) (l1 c1 : Nat) (n1 : Bool) (a2 : Option Addr) (l2 c2 : Nat) (n2 : Bool) (w : World) (hx : x.size ≤ maxLen) (hy : y.size ≤ maxLen) (h1 : l1 ≤ maxLen) (h2 : l2 ≤ maxLen)
    (s1 : Strs a1 l1 w) (s2 : Strs a2 l2 w) :
    Calls Try.prog 5 #[.string x, .string y, .slice a1 l1 c1, .bool n1, .slice a2 l2 c2, .bool n2] w fun e w' => e = .returned (.bool true) ∧ Below w.heap.size w w' := by
  go_enter Try.func5, Try.ntmps5
  go_wp2_with fail
  refine (bytes_any x y a1 l1 c1 n1 a2 l2 c2 n2 _ hx hy h1 h2 s1 s2).mono ?_
  rintro e w1 ⟨⟨r, rfl, hr⟩, rfl⟩
  cases r
  · go_wp2
    go_ret
    exact ⟨rfl, Below.refl _ _⟩
  obtain ⟨hl1, hl2⟩ := hr rfl
  clear hr h1 h2
  go_wp2_with fail
  refine (big_any x y a1 l1 c1 a2 l2 c2 _ hx hy hl1 hl2 s1 s2).mono ?_
  rintro e w1 ⟨⟨r, rfl⟩, rfl⟩
  cases r
  rotate_left
  · go_wp2
    go_ret
    exact ⟨rfl, Below.refl _ _⟩
  go_wp2_with fail
  refine (clone_any a1 l1 c1 _ hl1 s1).mono ?_
  rintro e w1 ⟨a1', c1', rfl, s1', hB1⟩
  have s2' := s2.below hB1
  clear s1 s2
  go_wp2_with fail
  refine (clone_any a2 l2 c2 _ hl2 s2').mono ?_
  rintro e w2 ⟨a2', c2', rfl, s2'', hB2⟩
  have s1'' := s1'.below hB2
  clear s2' s1'
  go_wp2_with fail
  refine (set_any a1' l1 c1' n1 _ hl1 s1'').mono ?_
  rintro e w3 ⟨m1, look1, rfl, hk1, hB3⟩
  have s2a := s2''.below hB3
  clear s2'' s1''
  go_wp2_with fail
  refine (set_any a2' l2 c2' n2 _ hl2 s2a).mono ?_
  rintro e w4 ⟨m2, look2, rfl, hk2, hB4⟩
  have hk1' := hk1.below hB4
  have z1 := hB1.size
  have z2 := hB2.size
  have z3 := hB3.size
  have z4 := hB4.size
  have hBa : Below w.heap.size w w4 := ((hB1.trans (hB2.mono z1)).trans (hB3.mono (by omega))).trans (hB4.mono (by omega))
  have hsz : ∀ o, Below w4.heap.size w4 (w4.alloc o) := fun o => (Below.refl _ _).alloc (Nat.le_refl _) _
  clear hk1 s2a hB1 hB2 hB3 hB4
  go_wp2_with fail
  refine (apply_any (.map m1) (.map m2) look1 look2 ⟨#[]⟩ x y _ (hk1'.below (hsz _)) (hk2.below (hsz _)) (.inl rfl) hx hy).mono ?_
  rintro e w5 ⟨rfl, hB5⟩
  have hB5' : Below w4.heap.size w4 w5 := (hsz _).trans (hB5.mono (by simp))
  have hc0 : w5.cell? ⟨w4.heap.size, 0, none⟩ = some (.map m1) := by
    rw [hB5.cell (p := ⟨w4.heap.size, 0, none⟩) (by simp)]
    simp
  have hc1 : w5.cell? ⟨w4.heap.size, 1, none⟩ = some (.map m2) := by
    rw [hB5.cell (p := ⟨w4.heap.size, 1, none⟩) (by simp)]
    simp
  have z5 := hB5'.size
  clear hB5
  go_wp2_with fail
  refine (apply_any (.map m1) (.map m2) look1 look2 geo x y _ (hk1'.below hB5') (hk2.below hB5') (.inr rfl) hx hy).mono ?_
  rintro e w6 ⟨rfl, hB6⟩
  have hBz : Below w.heap.size w w6 := (hBa.trans (hB5'.mono (by omega))).trans (hB6.mono (by omega))
  clear hBa hB5' hB6 hk1' hk2 hc0 hc1 hsz
  generalize cov look1 y = b1
  generalize preB y = b2
  generalize look2 x = b3
  cases b1 <;> cases b2 <;> cases b3
  all_goals
    simp only [verdict, nonPortable, areaOnly, international, geo]
    go_wp2
    go_ret
    exact ⟨rfl, hBz⟩
end Go.Proofs.Qxb6601574a.App
