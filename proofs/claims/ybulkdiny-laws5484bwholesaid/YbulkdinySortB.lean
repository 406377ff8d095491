import Derived.Test.YbulkdinySortA
namespace Go.Proofs.Ybulkdiny
open Go.ChangeShapes Go.WideShapes Go.ChangeAt Go.RowKit
set_option linter.unusedVariables false

set_option maxHeartbeats 1000000 in
theorem rev_any (g n cap a b : Nat) (w : World) (hn : n ≤ 1048576) (hab : a < b) (hb : b ≤ n) (h : Row w g n) :
    Calls Yba.prog 26 #[.slice (some ⟨g, 0, none⟩) n cap, .int .i64 a, .int .i64 b] w fun e w' => e = .returned (.tuple #[]) ∧ Row w' g n ∧ Kept g w w' := by
  obtain ⟨c, rfl⟩ : ∃ c, b = c + 1 := ⟨b - 1, by omega⟩
  go_enter Yba.func26, Yba.ntmps26
  go_wp2
  go_loopw [6, 7] (fun iv jv wr => ∃ i j : Nat, i ≤ n ∧ j < n ∧ iv = .int .i64 i ∧ jv = .int .i64 j ∧ Row wr g n ∧ Kept g w wr) (fun iv jv _ => (intOf jv).toNat + 1 - (intOf iv).toNat)
  case atStart => exact ⟨a, c, by omega, by omega, rfl, by go_num, h, Kept.refl g w⟩
  case round =>
    obtain ⟨i, j, hi, hj, rfl, rfl, hR, hK⟩ := hrel
    by_cases hlt : i < j
    · have hlt' : (i : Int) < (j : Int) := by omega
      obtain ⟨x, hx, cx⟩ := hR.cell (i := i) (by omega)
      obtain ⟨y, hy, cy⟩ := hR.cell (i := j) (by omega)
      have fx := hR.frozen i
      have fy := hR.frozen j
      have b1 : (i : Int) < (n : Int) := by omega
      have b2 : (j : Int) < (n : Int) := by omega
      go_wp2
      go_region
      all_goals go_wp2
      all_goals go_roundw
      case rel => exact ⟨i + 1, j - 1, by omega, by omega, by go_num, by go_num, hR.drew.swap _ _ hy hx, (hK.drew.set _ _).set _ _⟩
      case measure => simp [intOf] <;> omega
    · go_wp2
      go_end0
      exact ⟨rfl, hR, hK⟩

set_option maxHeartbeats 1000000 in
theorem heap_any (g n cap a b : Nat) (w : World) (hn : n ≤ 1048576) (hab : a + 1 < b) (hb : b ≤ n) (h : Row w g n) :
    Calls Yba.prog 23 #[.slice (some ⟨g, 0, none⟩) n cap, .int .i64 a, .int .i64 b] w fun e w' => e = .returned (.tuple #[]) ∧ Row w' g n ∧ Kept g w w' := by
  obtain ⟨l, hl⟩ : ∃ l : Nat, (b : Int) - (a : Int) = (l : Int) := ⟨b - a, by omega⟩
  have hl1 : 1 < l ∧ a + l ≤ n := by omega
  obtain ⟨m, hm⟩ : ∃ m : Nat, ((l : Int) - 1) / 2 = (m : Int) := ⟨(l - 1) / 2, by omega⟩
  have hm1 : m < l := by omega
  have hl0 : 0 ≤ (l : Int) - 1 := by omega
  have Hm : Hid (((l : Int) - 1) / 2 = (m : Int)) := hm
  clear hm
  go_enter Yba.func23, Yba.ntmps23
  go_wp2
  go_loopw [9] (fun iv wr => ∃ i : Int, -1 ≤ i ∧ i < l ∧ iv = .int .i64 i ∧ Row wr g n ∧ Kept g w wr) (fun iv _ => (intOf iv + 1).toNat)
  case atStart => exact ⟨m, by omega, by omega, by rw [Hm.out], h, Kept.refl g w⟩
  case round =>
    obtain ⟨i, hi1, hi2, rfl, hR, hK⟩ := hrel
    by_cases hi0 : 0 ≤ i
    · obtain ⟨j, rfl⟩ := Int.eq_ofNat_of_zero_le hi0
      go_wp2_with (go_at_call 40; refine (sift_any g n cap j l a _ hn (by omega) (by omega) hR).mono ?_; rintro e w1 ⟨rfl, hR1, hK1⟩)
      go_roundw
      case rel => first | exact ⟨(j : Int) - 1, by omega, by omega, rfl, hR1, hK.trans hK1⟩ | ((repeat apply Exists.intro); exact ⟨⟨(j : Int) - 1, by omega, by omega, rfl, hR1, hK.trans hK1⟩, rfl⟩)
      case measure => simp [intOf] <;> omega
    · obtain ⟨w2, e2⟩ : ∃ w2, w2 = wr := ⟨_, rfl⟩
      subst e2
      go_wp2
      go_loopw [10] (fun iv wr => ∃ i : Int, -1 ≤ i ∧ i < l ∧ iv = .int .i64 i ∧ Row wr g n ∧ Kept g w wr) (fun iv _ => (intOf iv + 1).toNat)
      case atStart => exact ⟨(l : Int) - 1, by omega, by omega, rfl, hR, hK⟩
      case round =>
        clear hR hK
        obtain ⟨i, hi1, hi2, rfl, hR, hK⟩ := hrel
        by_cases hi0 : 0 ≤ i
        · obtain ⟨j, rfl⟩ := Int.eq_ofNat_of_zero_le hi0
          obtain ⟨p, hp⟩ : ∃ p : Nat, p = a + j := ⟨_, rfl⟩
          obtain ⟨x, hx, cx⟩ := hR.cell (i := a) (by omega)
          obtain ⟨y, hy, cy⟩ := hR.cell (i := p) (by omega)
          obtain ⟨y', _, cy'⟩ := (hR.set a hy).cell (i := p) (by omega)
          have fx := hR.frozen a
          have fy := hR.frozen p
          have b1 : a < n := by omega
          have b2 : p < n := by omega
          have r1 : (a : Int) + (j : Int) = (p : Int) := by omega
          have v1 := wr64 (p : Int) p rfl (by omega)
          have hjl : a + j ≤ n := by omega
          clear hp
          go_wp2
          go_region
          all_goals go_wp2_with (go_at_call 40; refine (sift_any g n cap 0 j a _ hn (by omega) hjl ((hR.drew).swap _ _ hy hx)).mono ?_; rintro e w1 ⟨rfl, hR1, hK1⟩)
          all_goals go_roundw
          case rel => first | exact ⟨(j : Int) - 1, by omega, by omega, rfl, hR1, ((hK.drew.set _ _).set _ _).trans hK1⟩ | ((repeat apply Exists.intro); exact ⟨⟨(j : Int) - 1, by omega, by omega, rfl, hR1, ((hK.drew.set _ _).set _ _).trans hK1⟩, rfl⟩)
          case measure => simp [intOf] <;> omega
        · go_wp2
          go_end0
          exact ⟨rfl, hR, hK⟩
end Go.Proofs.Ybulkdiny
