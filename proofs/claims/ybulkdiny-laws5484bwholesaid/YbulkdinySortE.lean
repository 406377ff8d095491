import Derived.Test.YbulkdinySortD
namespace Go.Proofs.Ybulkdiny
open Go.ChangeShapes Go.WideShapes Go.ChangeAt Go.RowKit
set_option linter.unusedVariables false

set_option maxRecDepth 100000 in
set_option maxHeartbeats 4000000 in
theorem pis_any (g n cap a b : Nat) (w : World) (hn : n ≤ 1048576) (hab : a + 12 < b) (hb : b ≤ n) (h : Row w g n) :
    Calls Yba.prog 27 #[.slice (some ⟨g, 0, none⟩) n cap, .int .i64 a, .int .i64 b] w fun e w' => (∃ r : Bool, e = .returned (.bool r)) ∧ Row w' g n ∧ Kept g w w' := by
  go_enter Yba.func27, Yba.ntmps27
  go_wp2
  go_loopw [7, 8, 9, 10] (fun iv sv _ _ wr => ∃ i s : Nat, a + 1 ≤ i ∧ i ≤ b ∧ s ≤ 5 ∧ iv = .int .i64 i ∧ sv = .int .i64 s ∧ Row wr g n ∧ Kept g w wr) (fun _ sv _ _ _ => 5 - (intOf sv).toNat)
  case atStart => exact ⟨a + 1, 0, by omega, by omega, by omega, by go_num, rfl, h, Kept.refl g w⟩
  case round =>
    obtain ⟨i0, s, hi01, hi02, hs5, rfl, rfl, hR, hK⟩ := hrel
    by_cases hs : s < 5
    · have hs' : (s : Int) < 5 := by omega
      go_wp2
      obtain ⟨w1, e_w1⟩ : ∃ x, x = wr := ⟨_, rfl⟩
      subst e_w1
      go_loopw [7] (fun iv wr => ∃ i : Nat, a + 1 ≤ i ∧ i ≤ b ∧ iv = .int .i64 i ∧ Row wr g n ∧ Kept g w wr) (fun iv _ => b - (intOf iv).toNat)
      case atStart => exact ⟨i0, hi01, hi02, rfl, hR, hK⟩
      case round =>
        clear hR hK
        obtain ⟨i, hi1, hi2, rfl, hR, hK⟩ := hrel
        by_cases hib : i < b
        · have hib' : (i : Int) < (b : Int) := by omega
          obtain ⟨ip, ri⟩ : ∃ p : Nat, (i : Int) - 1 = (p : Int) := ⟨i - 1, by omega⟩
          have li : ip < i ∧ i < n := by omega
          have vi := wr64 (ip : Int) ip rfl (by omega)
          obtain ⟨x, hx, cx⟩ := hR.cell (i := i) (by omega)
          obtain ⟨y, hy, cy⟩ := hR.cell (i := ip) (by omega)
          have fx := hR.frozen i
          have fy := hR.frozen ip
          have c1 : i < n := by omega
          have c2 : ip < n := by omega
          by_cases hxy : x < y
          · have hne : ((i : Int) == (b : Int)) = false := beq_eq_false_iff_ne.2 (by omega)
            go_wp2
            go_quiet ((go_at_call 28; first | exact Calls.quiet_of_same (less_any _ _ _) | exact less_q _ _ _ _ _))
            by_cases h50 : b - a < 50
            · have h50' : (b : Int) - (a : Int) < 50 := by omega
              go_wp2
              go_ret
              exact ⟨⟨_, rfl⟩, by repeat (first | exact hR | exact hRs | apply Row.drewN | apply Row.drew), by repeat (first | exact hK | exact hKs | apply Kept.drewN | apply Kept.drew)⟩
            · have h50' : (50 : Int) ≤ (b : Int) - (a : Int) := by omega
              go_wp2
              go_region
              have hRs := (hR.drewN nq).drew.swap i ip hy hx
              have hKs := ((hK.drewN nq).drew.set i (.int .u32 y)).set ip (.int .u32 x)
              by_cases hia : 2 ≤ i - a
              · have hia' : (2 : Int) ≤ (i : Int) - (a : Int) := by omega
                go_wp2
                go_loopw [9] (fun jv wr => ∃ j : Nat, j < i ∧ jv = .int .i64 j ∧ Row wr g n ∧ Kept g w wr) (fun jv _ => (intOf jv).toNat)
                case atStart => exact ⟨i - 1, by omega, by go_num, by repeat (first | exact hR | exact hRs | apply Row.drewN | apply Row.drew), by repeat (first | exact hK | exact hKs | apply Kept.drewN | apply Kept.drew)⟩
                case round =>
                  clear hR hK
                  obtain ⟨j, hj1, rfl, hR, hK⟩ := hrel
                  by_cases hj0 : 1 ≤ j
                  · have hj0' : (1 : Int) ≤ (j : Int) := by omega
                    obtain ⟨jp, rj⟩ : ∃ p : Nat, (j : Int) - 1 = (p : Int) := ⟨j - 1, by omega⟩
                    have lj : jp < j ∧ j < n := by omega
                    have vj := wr64 (jp : Int) jp rfl (by omega)
                    obtain ⟨x, hx, cx⟩ := hR.cell (i := j) (by omega)
                    obtain ⟨y, hy, cy⟩ := hR.cell (i := jp) (by omega)
                    have fx := hR.frozen j
                    have fy := hR.frozen jp
                    have c1 : j < n := by omega
                    have c2 : jp < n := by omega
                    by_cases hxy : x < y
                    · go_wp2
                      go_quiet ((go_at_call 28; first | exact Calls.quiet_of_same (less_any _ _ _) | exact less_q _ _ _ _ _))
                      go_wp2
                      go_region
                      all_goals go_wp2
                      all_goals go_roundw
                      case rel => exact ⟨jp, by omega, rfl, (hR.drewN _).drew.swap _ _ hy hx, ((hK.drewN _).drew.set _ _).set _ _⟩
                      case measure => simp [intOf] <;> omega
                    · have hxy' : decide (x < y) = false := decide_eq_false hxy
                      go_wp2
                      go_quiet ((go_at_call 28; first | exact Calls.quiet_of_same (less_any _ _ _) | exact less_q _ _ _ _ _))
                      by_cases hbi : 2 ≤ b - i
                      · have hbi' : (2 : Int) ≤ (b : Int) - (i : Int) := by omega
                        go_wp2
                        go_loopw [10] (fun jv wr => ∃ j : Nat, i + 1 ≤ j ∧ j ≤ b ∧ jv = .int .i64 j ∧ Row wr g n ∧ Kept g w wr) (fun jv _ => b - (intOf jv).toNat)
                        case atStart => exact ⟨i + 1, by omega, by omega, by go_num, by repeat (first | exact hR | exact hRs | apply Row.drewN | apply Row.drew), by repeat (first | exact hK | exact hKs | apply Kept.drewN | apply Kept.drew)⟩
                        case round =>
                          clear hR hK
                          obtain ⟨j, hj1, hj2, rfl, hR, hK⟩ := hrel
                          by_cases hjb : j < b
                          · have hjb' : (j : Int) < (b : Int) := by omega
                            obtain ⟨jp, rj⟩ : ∃ p : Nat, (j : Int) - 1 = (p : Int) := ⟨j - 1, by omega⟩
                            have lj : jp < j ∧ j < n := by omega
                            have vj := wr64 (jp : Int) jp rfl (by omega)
                            obtain ⟨x, hx, cx⟩ := hR.cell (i := j) (by omega)
                            obtain ⟨y, hy, cy⟩ := hR.cell (i := jp) (by omega)
                            have fx := hR.frozen j
                            have fy := hR.frozen jp
                            have c1 : j < n := by omega
                            have c2 : jp < n := by omega
                            by_cases hxy : x < y
                            · go_wp2
                              go_quiet ((go_at_call 28; first | exact Calls.quiet_of_same (less_any _ _ _) | exact less_q _ _ _ _ _))
                              go_wp2
                              go_region
                              all_goals go_wp2
                              all_goals go_roundw
                              case rel => exact ⟨j + 1, by omega, by omega, by go_num, (hR.drewN _).drew.swap _ _ hy hx, ((hK.drewN _).drew.set _ _).set _ _⟩
                              case measure => simp [intOf] <;> omega
                            · have hxy' : decide (x < y) = false := decide_eq_false hxy
                              go_wp2
                              go_quiet ((go_at_call 28; first | exact Calls.quiet_of_same (less_any _ _ _) | exact less_q _ _ _ _ _))
                              go_wp2
                              go_roundw
                              case rel => exact ⟨i, s + 1, by omega, by omega, by omega, rfl, by go_num, by repeat (first | exact hR | exact hRs | apply Row.drewN | apply Row.drew), by repeat (first | exact hK | exact hKs | apply Kept.drewN | apply Kept.drew)⟩
                              case measure => simp [intOf] <;> omega
                          · go_wp2
                            go_roundw
                            case rel => exact ⟨i, s + 1, by omega, by omega, by omega, rfl, by go_num, by repeat (first | exact hR | exact hRs | apply Row.drewN | apply Row.drew), by repeat (first | exact hK | exact hKs | apply Kept.drewN | apply Kept.drew)⟩
                            case measure => simp [intOf] <;> omega
                      · have hbi' : (b : Int) - (i : Int) < 2 := by omega
                        go_wp2
                        go_roundw
                        case rel => exact ⟨i, s + 1, by omega, by omega, by omega, rfl, by go_num, by repeat (first | exact hR | exact hRs | apply Row.drewN | apply Row.drew), by repeat (first | exact hK | exact hKs | apply Kept.drewN | apply Kept.drew)⟩
                        case measure => simp [intOf] <;> omega
                  · have hj0' : (j : Int) < 1 := by omega
                    by_cases hbi : 2 ≤ b - i
                    · have hbi' : (2 : Int) ≤ (b : Int) - (i : Int) := by omega
                      go_wp2
                      go_loopw [10] (fun jv wr => ∃ j : Nat, i + 1 ≤ j ∧ j ≤ b ∧ jv = .int .i64 j ∧ Row wr g n ∧ Kept g w wr) (fun jv _ => b - (intOf jv).toNat)
                      case atStart => exact ⟨i + 1, by omega, by omega, by go_num, by repeat (first | exact hR | exact hRs | apply Row.drewN | apply Row.drew), by repeat (first | exact hK | exact hKs | apply Kept.drewN | apply Kept.drew)⟩
                      case round =>
                        clear hR hK
                        obtain ⟨j, hj1, hj2, rfl, hR, hK⟩ := hrel
                        by_cases hjb : j < b
                        · have hjb' : (j : Int) < (b : Int) := by omega
                          obtain ⟨jp, rj⟩ : ∃ p : Nat, (j : Int) - 1 = (p : Int) := ⟨j - 1, by omega⟩
                          have lj : jp < j ∧ j < n := by omega
                          have vj := wr64 (jp : Int) jp rfl (by omega)
                          obtain ⟨x, hx, cx⟩ := hR.cell (i := j) (by omega)
                          obtain ⟨y, hy, cy⟩ := hR.cell (i := jp) (by omega)
                          have fx := hR.frozen j
                          have fy := hR.frozen jp
                          have c1 : j < n := by omega
                          have c2 : jp < n := by omega
                          by_cases hxy : x < y
                          · go_wp2
                            go_quiet ((go_at_call 28; first | exact Calls.quiet_of_same (less_any _ _ _) | exact less_q _ _ _ _ _))
                            go_wp2
                            go_region
                            all_goals go_wp2
                            all_goals go_roundw
                            case rel => exact ⟨j + 1, by omega, by omega, by go_num, (hR.drewN _).drew.swap _ _ hy hx, ((hK.drewN _).drew.set _ _).set _ _⟩
                            case measure => simp [intOf] <;> omega
                          · have hxy' : decide (x < y) = false := decide_eq_false hxy
                            go_wp2
                            go_quiet ((go_at_call 28; first | exact Calls.quiet_of_same (less_any _ _ _) | exact less_q _ _ _ _ _))
                            go_wp2
                            go_roundw
                            case rel => exact ⟨i, s + 1, by omega, by omega, by omega, rfl, by go_num, by repeat (first | exact hR | exact hRs | apply Row.drewN | apply Row.drew), by repeat (first | exact hK | exact hKs | apply Kept.drewN | apply Kept.drew)⟩
                            case measure => simp [intOf] <;> omega
                        · go_wp2
                          go_roundw
                          case rel => exact ⟨i, s + 1, by omega, by omega, by omega, rfl, by go_num, by repeat (first | exact hR | exact hRs | apply Row.drewN | apply Row.drew), by repeat (first | exact hK | exact hKs | apply Kept.drewN | apply Kept.drew)⟩
                          case measure => simp [intOf] <;> omega
                    · have hbi' : (b : Int) - (i : Int) < 2 := by omega
                      go_wp2
                      go_roundw
                      case rel => exact ⟨i, s + 1, by omega, by omega, by omega, rfl, by go_num, by repeat (first | exact hR | exact hRs | apply Row.drewN | apply Row.drew), by repeat (first | exact hK | exact hKs | apply Kept.drewN | apply Kept.drew)⟩
                      case measure => simp [intOf] <;> omega
              · have hia' : (i : Int) - (a : Int) < 2 := by omega
                by_cases hbi : 2 ≤ b - i
                · have hbi' : (2 : Int) ≤ (b : Int) - (i : Int) := by omega
                  go_wp2
                  go_loopw [10] (fun jv wr => ∃ j : Nat, i + 1 ≤ j ∧ j ≤ b ∧ jv = .int .i64 j ∧ Row wr g n ∧ Kept g w wr) (fun jv _ => b - (intOf jv).toNat)
                  case atStart => exact ⟨i + 1, by omega, by omega, by go_num, by repeat (first | exact hR | exact hRs | apply Row.drewN | apply Row.drew), by repeat (first | exact hK | exact hKs | apply Kept.drewN | apply Kept.drew)⟩
                  case round =>
                    clear hR hK
                    obtain ⟨j, hj1, hj2, rfl, hR, hK⟩ := hrel
                    by_cases hjb : j < b
                    · have hjb' : (j : Int) < (b : Int) := by omega
                      obtain ⟨jp, rj⟩ : ∃ p : Nat, (j : Int) - 1 = (p : Int) := ⟨j - 1, by omega⟩
                      have lj : jp < j ∧ j < n := by omega
                      have vj := wr64 (jp : Int) jp rfl (by omega)
                      obtain ⟨x, hx, cx⟩ := hR.cell (i := j) (by omega)
                      obtain ⟨y, hy, cy⟩ := hR.cell (i := jp) (by omega)
                      have fx := hR.frozen j
                      have fy := hR.frozen jp
                      have c1 : j < n := by omega
                      have c2 : jp < n := by omega
                      by_cases hxy : x < y
                      · go_wp2
                        go_quiet ((go_at_call 28; first | exact Calls.quiet_of_same (less_any _ _ _) | exact less_q _ _ _ _ _))
                        go_wp2
                        go_region
                        all_goals go_wp2
                        all_goals go_roundw
                        case rel => exact ⟨j + 1, by omega, by omega, by go_num, (hR.drewN _).drew.swap _ _ hy hx, ((hK.drewN _).drew.set _ _).set _ _⟩
                        case measure => simp [intOf] <;> omega
                      · have hxy' : decide (x < y) = false := decide_eq_false hxy
                        go_wp2
                        go_quiet ((go_at_call 28; first | exact Calls.quiet_of_same (less_any _ _ _) | exact less_q _ _ _ _ _))
                        go_wp2
                        go_roundw
                        case rel => exact ⟨i, s + 1, by omega, by omega, by omega, rfl, by go_num, by repeat (first | exact hR | exact hRs | apply Row.drewN | apply Row.drew), by repeat (first | exact hK | exact hKs | apply Kept.drewN | apply Kept.drew)⟩
                        case measure => simp [intOf] <;> omega
                    · go_wp2
                      go_roundw
                      case rel => exact ⟨i, s + 1, by omega, by omega, by omega, rfl, by go_num, by repeat (first | exact hR | exact hRs | apply Row.drewN | apply Row.drew), by repeat (first | exact hK | exact hKs | apply Kept.drewN | apply Kept.drew)⟩
                      case measure => simp [intOf] <;> omega
                · exact absurd hbi (by omega)
          · have hxy' : decide (x < y) = false := decide_eq_false hxy
            go_wp2
            go_quiet ((go_at_call 28; first | exact Calls.quiet_of_same (less_any _ _ _) | exact less_q _ _ _ _ _))
            go_wp2
            go_roundw
            case rel => exact ⟨i + 1, by omega, by omega, by go_num, hR.drewN _, hK.drewN _⟩
            case measure => simp [intOf] <;> omega
        · have hib' : decide ((i : Int) < (b : Int)) = false := decide_eq_false (by omega)
          have eib : i = b := by omega
          subst eib
          go_wp2
          go_quiet (fail)
          go_wp2
          go_ret
          exact ⟨⟨_, rfl⟩, by repeat (first | exact hR | exact hRs | apply Row.drewN | apply Row.drew), by repeat (first | exact hK | exact hKs | apply Kept.drewN | apply Kept.drew)⟩
    · have hs' : (5 : Int) ≤ (s : Int) := by omega
      go_wp2
      go_ret
      exact ⟨⟨_, rfl⟩, hR, hK⟩
end Go.Proofs.Ybulkdiny
