import Derived.Test.YbulkdinySortF
namespace Go.Proofs.Ybulkdiny
open Go.ChangeShapes Go.WideShapes Go.ChangeAt Go.RowKit
set_option linter.unusedVariables false

set_option maxRecDepth 100000 in
set_option maxHeartbeats 8000000 in
theorem part_any (g n cap a b p : Nat) (w : World) (hn : n ≤ 1048576) (hab : a + 12 < b) (hb : b ≤ n) (hp : a ≤ p ∧ p < b) (h : Row w g n) :
    Calls Yba.prog 30 #[.slice (some ⟨g, 0, none⟩) n cap, .int .i64 a, .int .i64 b, .int .i64 p] w fun e w' => (∃ m : Nat, ∃ r : Bool, a ≤ m ∧ m < b ∧ e = .returned (.tuple #[.int .i64 m, .bool r])) ∧ Row w' g n ∧ Kept g w w' := by
  have hR := h
  obtain ⟨x1, hx1, cx1⟩ := hR.cell (i := a) (by omega)
  obtain ⟨y1, hy1, cy1⟩ := hR.cell (i := p) (by omega)
  obtain ⟨z1, _, cz1⟩ := ((hR).set a hy1).cell (i := p) (by omega)
  have fx1 := hR.frozen a
  have fy1 := hR.frozen p
  have d1 : a < n := by omega
  have d2 : p < n := by omega
  have hRs := h.drew.swap a p hy1 hx1
  have hKs := ((Kept.refl g w).drew.set a (.int .u32 y1)).set p (.int .u32 x1)
  clear hR
  go_enter Yba.func30, Yba.ntmps30
  go_wp2
  go_region
  go_wp2
  clear cx1 cy1 cz1 fx1 fy1 d1 d2
  obtain ⟨j0, ej0⟩ : ∃ j0 : Nat, (b : Int) - 1 = (j0 : Int) := ⟨b - 1, by omega⟩
  obtain ⟨i0, ei0⟩ : ∃ i0 : Nat, (a : Int) + 1 = (i0 : Int) := ⟨a + 1, by omega⟩
  simp only [ej0, ei0]
  have hj0 : j0 + 1 = b := by omega
  have hi0 : a + 1 = i0 := by omega
  clear ej0 ei0
  go_loopw [10] (fun tv wr => ∃ i : Nat, i0 ≤ i ∧ i ≤ b ∧ tv = .int .i64 i ∧ Row wr g n ∧ Kept g w wr) (fun tv _ => j0 + 1 - (intOf tv).toNat)
  case atStart => exact ⟨i0, by omega, by omega, by first | rfl | go_num, by repeat (first | exact hR | exact hRs | apply Row.drewN | apply Row.drew), by repeat (first | exact hK | exact hKs | apply Kept.drewN | apply Kept.drew)⟩
  case round =>
    skip
    obtain ⟨i, hi1, hi2, rfl, hR, hK⟩ := hrel
    by_cases hij : i ≤ j0
    · have hij' : (i : Int) ≤ (j0 : Nat) := by omega
      obtain ⟨x, hx, cx⟩ := hR.cell (i := i) (by omega)
      obtain ⟨y, hy, cy⟩ := hR.cell (i := a) (by omega)
      have c1 : i < n := by omega
      have c2 : a < n := by omega
      by_cases hxy : x < y
      · go_wp2
        go_quiet ((go_at_call 28; first | exact Calls.quiet_of_same (less_any _ _ _) | exact less_q _ _ _ _ _))
        go_wp2
        go_roundw
        case rel => exact ⟨i + 1, by omega, by omega, by go_num, hR.drewN _, hK.drewN _⟩
        case measure => simp [intOf] <;> omega
      · have hxy' : decide (x < y) = false := decide_eq_false hxy
        go_wp2
        go_quiet ((go_at_call 28; first | exact Calls.quiet_of_same (less_any _ _ _) | exact less_q _ _ _ _ _))
        go_wp2
        clear hxy' hxy
        go_loopw [11] (fun tv wr => ∃ j : Nat, a ≤ j ∧ j ≤ j0 ∧ tv = .int .i64 j ∧ Row wr g n ∧ Kept g w wr) (fun tv _ => (intOf tv).toNat)
        case atStart => exact ⟨j0, by omega, by omega, by first | rfl | go_num, by repeat (first | exact hR | exact hRs | apply Row.drewN | apply Row.drew), by repeat (first | exact hK | exact hKs | apply Kept.drewN | apply Kept.drew)⟩
        case round =>
          clear hR hK
          obtain ⟨j, hj1, hj2, rfl, hR, hK⟩ := hrel
          by_cases hij : i ≤ j
          · have hij' : (i : Int) ≤ (j : Nat) := by omega
            obtain ⟨x, hx, cx⟩ := hR.cell (i := j) (by omega)
            obtain ⟨y, hy, cy⟩ := hR.cell (i := a) (by omega)
            have c1 : j < n := by omega
            have c2 : a < n := by omega
            by_cases hxy : x < y
            · go_wp2
              go_quiet ((go_at_call 28; first | exact Calls.quiet_of_same (less_any _ _ _) | exact less_q _ _ _ _ _))
              clear cx cy
              have hng : decide (j < i) = false := decide_eq_false (by omega)
              obtain ⟨x1, hx1, cx1⟩ := hR.cell (i := i) (by omega)
              obtain ⟨y1, hy1, cy1⟩ := hR.cell (i := j) (by omega)
              obtain ⟨z1, _, cz1⟩ := ((hR.drewN (nq + 1)).set i hy1).cell (i := j) (by omega)
              have fx1 := hR.frozen i
              have fy1 := hR.frozen j
              have d1 : i < n := by omega
              have d2 : j < n := by omega
              have hRt := (hR.drewN (nq + 1)).swap i j hy1 hx1
              have hKt := ((hK.drewN (nq + 1)).set i (.int .u32 y1)).set j (.int .u32 x1)
              go_wp2
              go_region
              all_goals go_wp2
              clear cx1 cy1 cz1 fx1 fy1 d1 d2 hxy
              go_loopw [10, 11] (fun iv jv wr => ∃ i j : Nat, a + 1 ≤ i ∧ i ≤ b ∧ a ≤ j ∧ j < b ∧ iv = .int .i64 i ∧ jv = .int .i64 j ∧ Row wr g n ∧ Kept g w wr) (fun iv jv _ => (intOf jv).toNat + 1 - (intOf iv).toNat)
              case atStart => exact ⟨i + 1, j - 1, by omega, by omega, by omega, by omega, by go_num, by go_num, hRt, hKt⟩
              case round =>
                clear hRt hKt hR hK
                obtain ⟨i0, j0, hi1, hi2, hj1, hj2, rfl, rfl, hR, hK⟩ := hrel
                go_wp2
                go_loopw [10] (fun tv wr => ∃ i : Nat, i0 ≤ i ∧ i ≤ b ∧ tv = .int .i64 i ∧ Row wr g n ∧ Kept g w wr) (fun tv _ => j0 + 1 - (intOf tv).toNat)
                case atStart => exact ⟨i0, by omega, by omega, by first | rfl | go_num, by repeat (first | exact hR | exact hRs | apply Row.drewN | apply Row.drew), by repeat (first | exact hK | exact hKs | apply Kept.drewN | apply Kept.drew)⟩
                case round =>
                  clear hR hK
                  obtain ⟨i, hi1, hi2, rfl, hR, hK⟩ := hrel
                  by_cases hij : i ≤ j0
                  · have hij' : (i : Int) ≤ (j0 : Nat) := by omega
                    obtain ⟨x, hx, cx⟩ := hR.cell (i := i) (by omega)
                    obtain ⟨y, hy, cy⟩ := hR.cell (i := a) (by omega)
                    have c1 : i < n := by omega
                    have c2 : a < n := by omega
                    by_cases hxy : x < y
                    · go_wp2
                      go_quiet ((go_at_call 28; first | exact Calls.quiet_of_same (less_any _ _ _) | exact less_q _ _ _ _ _))
                      go_wp2
                      go_roundw
                      case rel => exact ⟨i + 1, by omega, by omega, by go_num, hR.drewN _, hK.drewN _⟩
                      case measure => simp [intOf] <;> omega
                    · have hxy' : decide (x < y) = false := decide_eq_false hxy
                      go_wp2
                      go_quiet ((go_at_call 28; first | exact Calls.quiet_of_same (less_any _ _ _) | exact less_q _ _ _ _ _))
                      go_wp2
                      clear hxy' hxy
                      go_loopw [11] (fun tv wr => ∃ j : Nat, a ≤ j ∧ j ≤ j0 ∧ tv = .int .i64 j ∧ Row wr g n ∧ Kept g w wr) (fun tv _ => (intOf tv).toNat)
                      case atStart => exact ⟨j0, by omega, by omega, by first | rfl | go_num, by repeat (first | exact hR | exact hRs | apply Row.drewN | apply Row.drew), by repeat (first | exact hK | exact hKs | apply Kept.drewN | apply Kept.drew)⟩
                      case round =>
                        clear hR hK
                        obtain ⟨j, hj1, hj2, rfl, hR, hK⟩ := hrel
                        by_cases hij : i ≤ j
                        · have hij' : (i : Int) ≤ (j : Nat) := by omega
                          obtain ⟨x, hx, cx⟩ := hR.cell (i := j) (by omega)
                          obtain ⟨y, hy, cy⟩ := hR.cell (i := a) (by omega)
                          have c1 : j < n := by omega
                          have c2 : a < n := by omega
                          by_cases hxy : x < y
                          · go_wp2
                            go_quiet ((go_at_call 28; first | exact Calls.quiet_of_same (less_any _ _ _) | exact less_q _ _ _ _ _))
                            clear cx cy
                            obtain ⟨x1, hx1, cx1⟩ := hR.cell (i := i) (by omega)
                            obtain ⟨y1, hy1, cy1⟩ := hR.cell (i := j) (by omega)
                            obtain ⟨z1, _, cz1⟩ := ((hR.drewN (nq + 1)).set i hy1).cell (i := j) (by omega)
                            have fx1 := hR.frozen i
                            have fy1 := hR.frozen j
                            have d1 : i < n := by omega
                            have d2 : j < n := by omega
                            go_wp2
                            go_region
                            all_goals go_wp2
                            all_goals go_roundw
                            case rel => first | exact ⟨i + 1, j - 1, by omega, by omega, by omega, by omega, by go_num, by go_num, by repeat (first | exact hR | apply Row.drewN | apply Row.drew | refine Row.swap ?_ _ _ hy1 hx1), by repeat (first | exact hK | apply Kept.drewN | apply Kept.drew | apply Kept.set)⟩ | ((repeat apply Exists.intro); refine ⟨?_, rfl⟩; exact ⟨i + 1, j - 1, by omega, by omega, by omega, by omega, by go_num, by go_num, by repeat (first | exact hR | apply Row.drewN | apply Row.drew | refine Row.swap ?_ _ _ hy1 hx1), by repeat (first | exact hK | apply Kept.drewN | apply Kept.drew | apply Kept.set)⟩)
                            case measure => simp [intOf] <;> omega
                          · have hxy' : decide (x < y) = false := decide_eq_false hxy
                            go_wp2
                            go_quiet ((go_at_call 28; first | exact Calls.quiet_of_same (less_any _ _ _) | exact less_q _ _ _ _ _))
                            go_wp2
                            go_roundw
                            case rel => exact ⟨j - 1, by omega, by omega, by go_num, hR.drewN _, hK.drewN _⟩
                            case measure => simp [intOf] <;> omega
                        · have hij' : decide ((i : Int) ≤ ((j : Nat) : Int)) = false := decide_eq_false (by omega)
                          go_wp2
                          go_quiet (fail)
                          have hgt : (j : Int) < (i : Int) := by omega
                          go_wp2
                          obtain ⟨x1, hx1, cx1⟩ := hR.cell (i := j) (by omega)
                          obtain ⟨y1, hy1, cy1⟩ := hR.cell (i := a) (by omega)
                          obtain ⟨z1, _, cz1⟩ := ((hR.drewN (nq + 1)).set j hy1).cell (i := a) (by omega)
                          have fx1 := hR.frozen j
                          have fy1 := hR.frozen a
                          have d1 : j < n := by omega
                          have d2 : a < n := by omega
                          go_wp2
                          go_region
                          all_goals go_wp2
                          go_ret2
                          exact ⟨⟨j, false, by omega, by omega, rfl⟩, by repeat (first | exact hR | apply Row.drewN | apply Row.drew | refine Row.swap ?_ _ _ hy1 hx1), by repeat (first | exact hK | apply Kept.drewN | apply Kept.drew | apply Kept.set)⟩
                  · have hij' : decide ((i : Int) ≤ ((j0 : Nat) : Int)) = false := decide_eq_false (by omega)
                    go_wp2
                    go_quiet (fail)
                    go_wp2
                    go_loopw [11] (fun tv wr => ∃ j : Nat, a ≤ j ∧ j ≤ j0 ∧ tv = .int .i64 j ∧ Row wr g n ∧ Kept g w wr) (fun tv _ => (intOf tv).toNat)
                    case atStart => exact ⟨j0, by omega, by omega, by first | rfl | go_num, by repeat (first | exact hR | exact hRs | apply Row.drewN | apply Row.drew), by repeat (first | exact hK | exact hKs | apply Kept.drewN | apply Kept.drew)⟩
                    case round =>
                      clear hR hK
                      obtain ⟨j, hj1, hj2, rfl, hR, hK⟩ := hrel
                      by_cases hij : i ≤ j
                      · exact absurd hij (by omega)
                      · have hij' : decide ((i : Int) ≤ ((j : Nat) : Int)) = false := decide_eq_false (by omega)
                        go_wp2
                        go_quiet (fail)
                        have hgt : (j : Int) < (i : Int) := by omega
                        go_wp2
                        obtain ⟨x1, hx1, cx1⟩ := hR.cell (i := j) (by omega)
                        obtain ⟨y1, hy1, cy1⟩ := hR.cell (i := a) (by omega)
                        obtain ⟨z1, _, cz1⟩ := ((hR.drewN (nq + 1)).set j hy1).cell (i := a) (by omega)
                        have fx1 := hR.frozen j
                        have fy1 := hR.frozen a
                        have d1 : j < n := by omega
                        have d2 : a < n := by omega
                        go_wp2
                        go_region
                        all_goals go_wp2
                        go_ret2
                        exact ⟨⟨j, false, by omega, by omega, rfl⟩, by repeat (first | exact hR | apply Row.drewN | apply Row.drew | refine Row.swap ?_ _ _ hy1 hx1), by repeat (first | exact hK | apply Kept.drewN | apply Kept.drew | apply Kept.set)⟩
            · have hxy' : decide (x < y) = false := decide_eq_false hxy
              go_wp2
              go_quiet ((go_at_call 28; first | exact Calls.quiet_of_same (less_any _ _ _) | exact less_q _ _ _ _ _))
              go_wp2
              go_roundw
              case rel => exact ⟨j - 1, by omega, by omega, by go_num, hR.drewN _, hK.drewN _⟩
              case measure => simp [intOf] <;> omega
          · have hij' : decide ((i : Int) ≤ ((j : Nat) : Int)) = false := decide_eq_false (by omega)
            go_wp2
            go_quiet (fail)
            have hgt : (j : Int) < (i : Int) := by omega
            go_wp2
            obtain ⟨x1, hx1, cx1⟩ := hR.cell (i := j) (by omega)
            obtain ⟨y1, hy1, cy1⟩ := hR.cell (i := a) (by omega)
            obtain ⟨z1, _, cz1⟩ := ((hR.drewN (nq + 1)).set j hy1).cell (i := a) (by omega)
            have fx1 := hR.frozen j
            have fy1 := hR.frozen a
            have d1 : j < n := by omega
            have d2 : a < n := by omega
            go_wp2
            go_region
            all_goals go_wp2
            go_ret2
            exact ⟨⟨j, true, by omega, by omega, rfl⟩, by repeat (first | exact hR | apply Row.drewN | apply Row.drew | refine Row.swap ?_ _ _ hy1 hx1), by repeat (first | exact hK | apply Kept.drewN | apply Kept.drew | apply Kept.set)⟩
    · have hij' : decide ((i : Int) ≤ ((j0 : Nat) : Int)) = false := decide_eq_false (by omega)
      go_wp2
      go_quiet (fail)
      go_wp2
      go_loopw [11] (fun tv wr => ∃ j : Nat, a ≤ j ∧ j ≤ j0 ∧ tv = .int .i64 j ∧ Row wr g n ∧ Kept g w wr) (fun tv _ => (intOf tv).toNat)
      case atStart => exact ⟨j0, by omega, by omega, by first | rfl | go_num, by repeat (first | exact hR | exact hRs | apply Row.drewN | apply Row.drew), by repeat (first | exact hK | exact hKs | apply Kept.drewN | apply Kept.drew)⟩
      case round =>
        clear hR hK
        obtain ⟨j, hj1, hj2, rfl, hR, hK⟩ := hrel
        by_cases hij : i ≤ j
        · exact absurd hij (by omega)
        · have hij' : decide ((i : Int) ≤ ((j : Nat) : Int)) = false := decide_eq_false (by omega)
          go_wp2
          go_quiet (fail)
          have hgt : (j : Int) < (i : Int) := by omega
          go_wp2
          obtain ⟨x1, hx1, cx1⟩ := hR.cell (i := j) (by omega)
          obtain ⟨y1, hy1, cy1⟩ := hR.cell (i := a) (by omega)
          obtain ⟨z1, _, cz1⟩ := ((hR.drewN (nq + 1)).set j hy1).cell (i := a) (by omega)
          have fx1 := hR.frozen j
          have fy1 := hR.frozen a
          have d1 : j < n := by omega
          have d2 : a < n := by omega
          go_wp2
          go_region
          all_goals go_wp2
          go_ret2
          exact ⟨⟨j, true, by omega, by omega, rfl⟩, by repeat (first | exact hR | apply Row.drewN | apply Row.drew | refine Row.swap ?_ _ _ hy1 hx1), by repeat (first | exact hK | apply Kept.drewN | apply Kept.drew | apply Kept.set)⟩
end Go.Proofs.Ybulkdiny
