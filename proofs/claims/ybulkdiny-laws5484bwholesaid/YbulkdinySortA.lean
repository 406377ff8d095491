/- The sort's walks, first lot: insertion, sift. -/
import Derived.Test.YbulkdinySortKit
namespace Go.Proofs.Ybulkdiny
open Go.ChangeShapes Go.WideShapes Go.ChangeAt Go.RowKit
set_option linter.unusedVariables false

set_option maxHeartbeats 1000000 in
theorem ins_any (g n cap a b : Nat) (w : World) (hn : n ≤ 1048576) (hab : a ≤ b) (hb : b ≤ n) (h : Row w g n) :
    Calls Yba.prog 22 #[.slice (some ⟨g, 0, none⟩) n cap, .int .i64 a, .int .i64 b] w fun e w' => e = .returned (.tuple #[]) ∧ Row w' g n ∧ Kept g w w' := by
  go_enter Yba.func22, Yba.ntmps22
  go_wp2
  go_loopw [6, 7] (fun iv _ wr => ∃ i : Nat, a + 1 ≤ i ∧ i ≤ b + 1 ∧ iv = .int .i64 i ∧ Row wr g n ∧ Kept g w wr) (fun iv _ _ => b + 1 - (intOf iv).toNat)
  case atStart => exact ⟨a + 1, by omega, by omega, by go_num, h, Kept.refl g w⟩
  case round =>
    obtain ⟨i, hi1, hi2, rfl, hR, hK⟩ := hrel
    by_cases hlt : i < b
    · have hlt' : (i : Int) < (b : Int) := by omega
      obtain ⟨w1, e1⟩ : ∃ w1, w1 = wr := ⟨_, rfl⟩
      subst e1
      go_wp2
      go_loopw [7] (fun jv wr => ∃ j : Nat, a ≤ j ∧ j ≤ i ∧ jv = .int .i64 j ∧ Row wr g n ∧ Kept g w wr) (fun jv _ => (intOf jv).toNat)
      case atStart => exact ⟨i, by omega, Nat.le_refl _, rfl, hR, hK⟩
      case round =>
        obtain ⟨j, hj1, hj2, rfl, hR2, hK2⟩ := hrel
        by_cases hgt : a < j
        · obtain ⟨j', rfl⟩ : ∃ j', j = j' + 1 := ⟨j - 1, by omega⟩
          obtain ⟨x, hx, cx⟩ := hR2.cell (i := j' + 1) (by omega)
          obtain ⟨y, hy, cy⟩ := hR2.cell (i := j') (by omega)
          have fx := hR2.frozen (j' + 1)
          have fy := hR2.frozen j'
          have hgt' : (a : Int) < (j' : Int) + 1 := by omega
          have hb1 : (j' : Int) + 1 < (n : Int) := by omega
          have hb2 : (j' : Int) < (n : Int) := by omega
          by_cases hxy : x < y
          · go_wp2
            go_quiet ((go_at_call 28; exact Calls.quiet_of_same (less_any _ _ _)))
            go_wp2
            go_region
            all_goals go_wp2
            all_goals go_roundw
            case rel => exact ⟨j', by omega, by omega, rfl, (hR2.drewN _).drew.swap _ _ hy hx, ((hK2.drewN _).drew.set _ _).set _ _⟩
            case measure => simp [intOf]
          · have hxy' : decide (x < y) = false := decide_eq_false hxy
            go_wp2
            go_quiet ((go_at_call 28; exact Calls.quiet_of_same (less_any _ _ _)))
            go_wp2
            go_roundw
            case rel => exact ⟨i + 1, by omega, by omega, by go_num, hR2.drewN _, hK2.drewN _⟩
            case measure => simp [intOf]; omega
        · have hgt' : decide ((a : Int) < (j : Int)) = false := decide_eq_false (by omega)
          go_wp2
          go_quiet (fail)
          go_wp2
          go_roundw
          case rel => exact ⟨i + 1, by omega, by omega, by go_num, hR2.drewN _, hK2.drewN _⟩
          case measure => simp [intOf]; omega
    · go_wp2
      go_end0
      exact ⟨rfl, hR, hK⟩
set_option maxHeartbeats 2000000 in
theorem sift_any (g n cap lo hi first : Nat) (w : World) (hn : n ≤ 1048576) (hlo : lo ≤ n) (hb : first + hi ≤ n) (h : Row w g n) :
    Calls Yba.prog 40 #[.slice (some ⟨g, 0, none⟩) n cap, .int .i64 lo, .int .i64 hi, .int .i64 first] w fun e w' => e = .returned (.tuple #[]) ∧ Row w' g n ∧ Kept g w w' := by
  go_enter Yba.func40, Yba.ntmps40
  go_wp2
  go_loopw [8, 9] (fun rv _ wr => ∃ r : Nat, r ≤ n ∧ rv = .int .i64 r ∧ Row wr g n ∧ Kept g w wr) (fun rv _ _ => hi - (intOf rv).toNat)
  case atStart => exact ⟨lo, hlo, rfl, h, Kept.refl g w⟩
  case round =>
    obtain ⟨r, hr, rfl, hR, hK⟩ := hrel
    by_cases hc : 2 * r + 1 < hi
    · have hc' : 2 * (r : Int) + 1 < (hi : Int) := by omega
      obtain ⟨c, hcc⟩ : ∃ c : Nat, c = 2 * r + 1 := ⟨_, rfl⟩
      obtain ⟨d, hdd⟩ : ∃ d : Nat, d = 2 * r + 2 := ⟨_, rfl⟩
      obtain ⟨pr, hpr⟩ : ∃ p : Nat, p = first + r := ⟨_, rfl⟩
      obtain ⟨pc, hpc⟩ : ∃ p : Nat, p = first + c := ⟨_, rfl⟩
      obtain ⟨pd, hpd⟩ : ∃ p : Nat, p = first + d := ⟨_, rfl⟩
      obtain ⟨x, hx, cx⟩ := hR.cell (i := pr) (by omega)
      obtain ⟨y, hy, cy⟩ := hR.cell (i := pc) (by omega)
      have fx := hR.frozen pr
      have fy := hR.frozen pc
      have b1 : pr < n := by omega
      have b2 : pc < n := by omega
      have b3 : (c : Int) < (hi : Int) := by omega
      have r1 : 2 * (r : Int) + 1 = (c : Int) := by omega
      have r2 : (c : Int) + 1 = (d : Int) := by omega
      have r3 : (first : Int) + (r : Int) = (pr : Int) := by omega
      have r4 : (first : Int) + (c : Int) = (pc : Int) := by omega
      have r5 : (first : Int) + (d : Int) = (pd : Int) := by omega
      have r6 : (pc : Int) + 1 = (pd : Int) := by omega
      have v1 := wr64 (c : Int) c rfl (by omega)
      have v2 := wr64 (d : Int) d rfl (by omega)
      have v3 := wr64 (pr : Int) pr rfl (by omega)
      have v4 := wr64 (pc : Int) pc rfl (by omega)
      have v5 := wr64 (pd : Int) pd rfl (by omega)
      have hcr : r < c ∧ c ≤ n ∧ d ≤ n + 1 := by omega
      clear hcc hpr hpc hc'
      by_cases hg : d < hi
      · have hg' : (d : Int) < (hi : Int) := by omega
        have b4 : pd < n := by omega
        obtain ⟨z, hz, cz⟩ := hR.cell (i := pd) b4
        have fz := hR.frozen pd
        clear hdd hpd
        by_cases hyz : y < z
        · by_cases hxy : x < z
          · go_wp2
            go_quiet ((go_at_call 28; first | exact Calls.quiet_of_same (less_any _ _ _) | exact less_q _ _ _ _ _))
            go_wp2
            go_quiet ((go_at_call 28; first | exact Calls.quiet_of_same (less_any _ _ _) | exact less_q _ _ _ _ _))
            go_wp2
            go_region
            all_goals go_wp2
            all_goals go_roundw
            case rel => exact ⟨d, by omega, rfl, (hR.drewN _).drew.swap _ _ hz hx, ((hK.drewN _).drew.set _ _).set _ _⟩
            case measure => simp [intOf]; omega
          · have hxy' : decide (x < z) = false := decide_eq_false hxy
            go_wp2
            go_quiet ((go_at_call 28; first | exact Calls.quiet_of_same (less_any _ _ _) | exact less_q _ _ _ _ _))
            go_wp2
            go_quiet ((go_at_call 28; first | exact Calls.quiet_of_same (less_any _ _ _) | exact less_q _ _ _ _ _))
            go_wp2
            refine bodyPost_ret (results_none rfl _ _ _) rfl ?_
            exact ⟨rfl, (hR.drewN _).drewN _, (hK.drewN _).drewN _⟩
        · have hyz' : decide (y < z) = false := decide_eq_false hyz
          by_cases hxy : x < y
          · go_wp2
            go_quiet ((go_at_call 28; first | exact Calls.quiet_of_same (less_any _ _ _) | exact less_q _ _ _ _ _))
            go_wp2
            go_quiet ((go_at_call 28; first | exact Calls.quiet_of_same (less_any _ _ _) | exact less_q _ _ _ _ _))
            go_wp2
            go_region
            all_goals go_wp2
            all_goals go_roundw
            case rel => exact ⟨c, by omega, rfl, (hR.drewN _).drew.swap _ _ hy hx, ((hK.drewN _).drew.set _ _).set _ _⟩
            case measure => simp [intOf]; omega
          · have hxy' : decide (x < y) = false := decide_eq_false hxy
            go_wp2
            go_quiet ((go_at_call 28; first | exact Calls.quiet_of_same (less_any _ _ _) | exact less_q _ _ _ _ _))
            go_wp2
            go_quiet ((go_at_call 28; first | exact Calls.quiet_of_same (less_any _ _ _) | exact less_q _ _ _ _ _))
            go_wp2
            refine bodyPost_ret (results_none rfl _ _ _) rfl ?_
            exact ⟨rfl, (hR.drewN _).drewN _, (hK.drewN _).drewN _⟩
      · have hg' : decide ((d : Int) < (hi : Int)) = false := decide_eq_false (by omega)
        clear hdd hpd
        by_cases hxy : x < y
        · go_wp2
          go_quiet (fail)
          go_wp2
          go_quiet ((go_at_call 28; first | exact Calls.quiet_of_same (less_any _ _ _) | exact less_q _ _ _ _ _))
          go_wp2
          go_region
          all_goals go_wp2
          all_goals go_roundw
          case rel => exact ⟨c, by omega, rfl, (hR.drewN _).drew.swap _ _ hy hx, ((hK.drewN _).drew.set _ _).set _ _⟩
          case measure => simp [intOf]; omega
        · have hxy' : decide (x < y) = false := decide_eq_false hxy
          go_wp2
          go_quiet (fail)
          go_wp2
          go_quiet ((go_at_call 28; first | exact Calls.quiet_of_same (less_any _ _ _) | exact less_q _ _ _ _ _))
          go_wp2
          refine bodyPost_ret (results_none rfl _ _ _) rfl ?_
          exact ⟨rfl, (hR.drewN _).drewN _, (hK.drewN _).drewN _⟩
    · go_wp2
      go_end0
      exact ⟨rfl, hR, hK⟩
end Go.Proofs.Ybulkdiny
