/-
  THE QUOTE READERS: doubleQuoted (56).
-/
import Derived.Test.Qxb6001659aQuoA
import Derived.Deep.RegionHeld3
namespace Go.Proofs.Qxb6001659a.Quo
open Go.RowKit

attribute [local go_sem] Go.wp_at_zero Go.wp_at_succ

set_option maxHeartbeats 4000000 in
set_option maxRecDepth 100000 in
theorem dq_any (s : ByteArray) (B b n : Nat) (I : Nat → Prop) (r : Int) (w : World) (hs : s.size ≤ 1000000) (hn : n ≤ 1000000) (hBw : B ≤ w.heap.size) (hb : Bd B b n w) (H : Reads s 34 (dqStep s) I r) :
    Calls Try.prog 56 #[.string s, .pointer (some ⟨b, 0, none⟩)] w fun e w' => e = .returned (.int .i64 r) ∧ Below B w w' := by
  go_enter Try.func56, Try.ntmps56
  go_wp2
  go_loopw [5] (fun i wr => ∃ k : Nat, k ≤ s.size ∧ i = .int .i64 k ∧ I k ∧ Bd B b (n + k) wr ∧ Below B w wr) (fun i _ => s.size - (intOf i).toNat)
  case atStart => exact ⟨0, Nat.zero_le _, rfl, H.start, hb, Below.refl _ _⟩
  case round =>
    obtain ⟨k, hk, rfl, hI, hbr, hBr⟩ := hrel
    have hBs : B ≤ wr.heap.size := Nat.le_trans hBw hBr.size
    by_cases hlt : k < s.size
    · have e0 := bt_eq s k hlt
      by_cases hq : bt s k = 34
      · have hr := H.at_ k hI hlt hq
        subst hr
        have hq' : ((s[k]'hlt).toNat : Int) = 34 := by rw [e0]; exact hq
        clear e0 hq
        go_wp2
        go_ret
        exact ⟨rfl, hBr⟩
      · have hq' : (((s[k]'hlt).toNat : Int) == 34) = false := by rw [e0]; simpa using hq
        have hnx := H.next k hI hlt hq
        clear H hb
        by_cases h92 : bt s k = 92
        · have h92' : ((s[k]'hlt).toNat : Int) = 92 := by rw [e0]; exact h92
          by_cases hl1 : k + 1 < s.size
          · have e1 := bt_eq s (k + 1) hl1
            by_cases hx : bt s (k + 1) = 120 ∧ k + 3 < s.size ∧ hexB (bt s (k + 2)) = true ∧ hexB (bt s (k + 3)) = true
            · have hS : dqStep s k = 4 := by rw [dqStep, if_neg (by omega), if_pos hx]
              rw [hS] at hnx
              obtain ⟨hx1, hl3, hx2, hx3⟩ := hx
              have hx1' : ((s[k + 1]'hl1).toNat : Int) = 120 := by rw [e1]; exact hx1
              have hx2' : hexB ((s[k + 2]'(by omega)).toNat : Int) = true := by rw [bt_eq]; exact hx2
              have hx3' : hexB ((s[k + 3]'hl3).toNat : Int) = true := by rw [bt_eq]; exact hx3
              have hl2 : k + 2 < s.size := by omega
              clear e0 e1 hq hS h92 hx1 hx2 hx3
              go_wp2_with (go_at_call 70; refine (hex_any _ _).mono ?_; rintro e w1 ⟨rfl, rfl⟩)
              have r2 := run_index_at s (k + 2) ((k : Int) + 2) (by omega) hl2
              have r3 := run_index_at s (k + 3) ((k : Int) + 3) (by omega) hl3
              have v2 : IntKind.i64.wrap ((k : Int) + 2) = (k : Int) + 2 := IntWalk.i64_in _ (by omega)
              have v3 : IntKind.i64.wrap ((k : Int) + 3) = (k : Int) + 3 := IntWalk.i64_in _ (by omega)
              go_region_held3 (fun _ => True) (go_keep) (first | (go_at_call 71; refine (hexval_any _ _).mono ?_; rintro e w1 ⟨⟨m, rfl⟩, rfl⟩) | (go_at_call 58; refine (write_bd B b (n + k) _ _ (by exact hbr) (by omega) (by exact hBs)).mono ?_; rintro e w1 ⟨rfl, hb1, hB1⟩))
              all_goals
                go_wp2
                go_roundw
                case rel => exact ⟨k + 4, by omega, by go_num, hnx, hb1.le (by omega), hBr.drew.trans hB1⟩
                case measure => simp [intOf]; omega
            · have hS : dqStep s k = 2 := by rw [dqStep, if_neg (by omega), if_neg hx]
              rw [hS] at hnx
              by_cases hx1 : bt s (k + 1) = 120
              · have hx1' : ((s[k + 1]'hl1).toNat : Int) = 120 := by rw [e1]; exact hx1
                by_cases hl3 : k + 3 < s.size
                · have hl2 : k + 2 < s.size := by omega
                  by_cases hx2 : hexB (bt s (k + 2)) = true
                  · have hx3 : hexB (bt s (k + 3)) = false := by
                      cases h : hexB (bt s (k + 3))
                      · rfl
                      · exact absurd ⟨hx1, hl3, hx2, h⟩ hx
                    have hx2' : hexB ((s[k + 2]'hl2).toNat : Int) = true := by rw [bt_eq]; exact hx2
                    have hx3' : hexB ((s[k + 3]'hl3).toNat : Int) = false := by rw [bt_eq]; exact hx3
                    clear e0 e1 hq hS h92 hx1 hx2 hx3 hx
                    go_wp2_with (first | (go_at_call 70; refine (hex_any _ _).mono ?_; rintro e w1 ⟨rfl, rfl⟩) | (go_at_call 58; refine (write_bd B b (n + k) _ _ hbr (by omega) hBs).mono ?_; rintro e w1 ⟨rfl, hb1, hB1⟩))
                    go_roundw
                    case rel => exact ⟨k + 2, by omega, by go_num, hnx, hb1.le (by omega), hBr.trans hB1⟩
                    case measure => simp [intOf]; omega
                  · have hx2' : hexB ((s[k + 2]'hl2).toNat : Int) = false := by rw [bt_eq]; simpa using hx2
                    clear e0 e1 hq hS h92 hx1 hx2 hx
                    go_wp2_with (first | (go_at_call 70; refine (hex_any _ _).mono ?_; rintro e w1 ⟨rfl, rfl⟩) | (go_at_call 58; refine (write_bd B b (n + k) _ _ hbr (by omega) hBs).mono ?_; rintro e w1 ⟨rfl, hb1, hB1⟩))
                    go_roundw
                    case rel => exact ⟨k + 2, by omega, by go_num, hnx, hb1.le (by omega), hBr.trans hB1⟩
                    case measure => simp [intOf]; omega
                · clear e0 e1 hq hS h92 hx1 hx
                  go_wp2_with (go_at_call 58; refine (write_bd B b (n + k) _ _ hbr (by omega) hBs).mono ?_; rintro e w1 ⟨rfl, hb1, hB1⟩)
                  go_roundw
                  case rel => exact ⟨k + 2, by omega, by go_num, hnx, hb1.le (by omega), hBr.trans hB1⟩
                  case measure => simp [intOf]; omega
              · have hx1' : (((s[k + 1]'hl1).toNat : Int) == 120) = false := by rw [e1]; simpa using hx1
                clear e0 e1 hq hS h92 hx1 hx
                go_wp2_with (go_at_call 58; refine (write_bd B b (n + k) _ _ hbr (by omega) hBs).mono ?_; rintro e w1 ⟨rfl, hb1, hB1⟩)
                all_goals
                  go_roundw
                  case rel => exact ⟨k + 2, by omega, by go_num, hnx, hb1.le (by omega), hBr.trans hB1⟩
                  case measure => simp [intOf]; omega
          · have hS : dqStep s k = 1 := by rw [dqStep, if_pos (by omega)]
            rw [hS] at hnx
            have hl1' : k + 1 = s.size := by omega
            have hl2 : ((k : Int) + 1 == (s.size : Int)) = true := by simp; omega
            clear e0 hq hS h92 hl1'
            go_wp2_with (go_at_call 58; refine (write_bd B b (n + k) _ _ hbr (by omega) hBs).mono ?_; rintro e w1 ⟨rfl, hb1, hB1⟩)
            go_roundw
            case rel => exact ⟨k + 1, by omega, by go_num, hnx, hb1, hBr.trans hB1⟩
            case measure => simp [intOf]; omega
        · have h92' : (((s[k]'hlt).toNat : Int) == 92) = false := by rw [e0]; simpa using h92
          have hS : dqStep s k = 1 := by rw [dqStep, if_pos (by omega)]
          rw [hS] at hnx
          clear e0 hq hS h92
          go_wp2_with (go_at_call 58; refine (write_bd B b (n + k) _ _ hbr (by omega) hBs).mono ?_; rintro e w1 ⟨rfl, hb1, hB1⟩)
          go_roundw
          case rel => exact ⟨k + 1, by omega, by go_num, hnx, hb1, hBr.trans hB1⟩
          case measure => simp [intOf]; omega
    · have hkl : k = s.size := by omega
      have hr := H.off (by rw [← hkl]; exact hI)
      subst hr
      clear hkl
      go_wp2
      go_ret
      exact ⟨rfl, hBr⟩

end Go.Proofs.Qxb6001659a.Quo
