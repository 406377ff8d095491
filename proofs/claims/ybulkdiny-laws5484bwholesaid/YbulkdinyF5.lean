import Derived.Test.YbulkdinyF4
namespace Go.Proofs.Ybulkdiny
open Go.ChangeShapes Go.WideShapes Go.ChangeAt Go.RowKit
set_option linter.unusedVariables false

set_option maxRecDepth 100000 in
set_option maxHeartbeats 4000000 in
theorem frexp0_any (w : World) : Calls Yba.prog 48 #[.float .f64 0] w fun e w' => e = .returned (.tuple #[.float .f64 0, .int .i64 0]) ∧ w' = w := by
  have ho : FloatKind.f64.format.order 0 0 = some .eq := by decide +kernel
  go_enter Yba.func48, Yba.ntmps48
  go_wp2
  go_ret2
  exact ⟨rfl, rfl⟩

/-- the fraction that Frexp gives: no one asks for it -/
def frc (x : Nat) : Nat := if x = 0 then 0 else (bits .or .u64 (bits .andNot .u64 (x : Int) 9218868437227405312) 4602678819172646912).toNat

set_option maxRecDepth 100000 in
set_option maxHeartbeats 4000000 in
theorem frexp_any (E V : Nat) (w : World) (h1 : 900 ≤ E) (h2 : E ≤ 1200) (h3 : 4503599627370496 ≤ V) (h4 : V < 9007199254740992) :
    Calls Yba.prog 48 #[.float .f64 (wd E V)] w fun e w' => e = .returned (.tuple #[.float .f64 (frc (wd E V)), .int .i64 ((E : Int) - 1023 + 1)]) ∧ w' = w := by
  have hlt : wd E V < 9218868437227405312 := wd_lt (by omega) (by omega) h4
  have hge : 4503599627370496 ≤ wd E V := by unfold wd; omega
  have hsh : (wd E V : Int) / 4503599627370496 = (E : Int) := by unfold wd; omega
  obtain ⟨x, hx⟩ : ∃ x, wd E V = x := ⟨_, rfl⟩
  rw [hx] at hlt hge hsh ⊢
  have ho : (FloatKind.f64.format.order x 0 == some .eq) = false := by
    rw [order_f64 hlt (by omega), Nat.compare_eq_gt.2 (by omega)]; rfl
  have hb := run_bits
  have hf := run_from
  have ha := and_2047 E (by omega)
  have hn := isN_pos hlt
  go_enter Yba.func48, Yba.ntmps48
  go_wp2_with (first | (go_at_call 33; refine (isinf_any x _ hlt).mono ?_; rintro e w1 ⟨rfl, rfl⟩) | (go_at_call 12; refine (isnan_any x _).mono ?_; rintro e w1 ⟨rfl, rfl⟩) | (go_at_call 34; refine (norm_any x _ hge hlt).mono ?_; rintro e w1 ⟨rfl, rfl⟩))
  go_ret2
  have hfr : frc x = (bits .or .u64 (bits .andNot .u64 (x : Int) 9218868437227405312) 4602678819172646912).toNat := if_neg (by omega)
  exact ⟨by rw [hfr]; rfl, rfl⟩

set_option maxRecDepth 100000 in
set_option maxHeartbeats 4000000 in
theorem Frexp_any (x : Nat) (w : World) (h : Dur x) :
    Calls Yba.prog 39 #[.float .f64 x] w fun e w' => e = .returned (.tuple #[.float .f64 (frc x), .int .i64 ((sce x : Int) - 1023 + 1)]) ∧ w' = w := by
  have key : Calls Yba.prog 48 #[.float .f64 x] w fun e w' => e = .returned (.tuple #[.float .f64 (frc x), .int .i64 ((sce x : Int) - 1023 + 1)]) ∧ w' = w := by
    rcases h with rfl | ⟨E, V, rfl, h1, h2, h3, h4⟩
    · exact frexp0_any w
    · rw [sce_wd (by omega) h3 h4]
      exact frexp_any E V w h1 h2 h3 h4
  go_enter Yba.func39, Yba.ntmps39
  go_wp2_with (go_at_call 48; refine key.mono ?_; rintro e w1 ⟨rfl, rfl⟩)
  go_ret2
  exact ⟨rfl, rfl⟩

theorem andNot_one : bits .andNot .u64 4607182418800017408 9218868437227405312 = 0 := by decide +kernel
theorem and_one : bits .and .i64 1023 2047 = 1023 := by decide +kernel
theorem or_zero (P : Nat) (h : P ≤ 2046) : bits .or .u64 0 ((P : Int) * 4503599627370496) = (P : Int) * 4503599627370496 := by
  have := u64_or_nat 0 (P * 4503599627370496) (by omega) (by omega)
  rw [Nat.zero_or] at this
  simpa using this

set_option maxRecDepth 100000 in
set_option maxHeartbeats 4000000 in
theorem ldexp_any (k : Int) (P : Nat) (w : World) (hk : k + 1023 = P) (p1 : 900 ≤ P) (p2 : P ≤ 1200) :
    Calls Yba.prog 18 #[.float .f64 4607182418800017408, .int .i64 k] w fun e w' => e = .returned (.float .f64 (pw P)) ∧ w' = w := by
  have ho : (FloatKind.f64.format.order 4607182418800017408 0 == some .eq) = false := by decide +kernel
  have hb := run_bits
  have hf := run_from
  have hn : isN 4607182418800017408 = false := isN_pos (by omega)
  have ha1 := andNot_one
  have ha2 := and_one
  have ho2 := or_zero P (by omega)
  have ht : ((P : Int) * 4503599627370496).toNat = pw P := by simp only [pw, wd]; omega
  have hm : floatBits .mul .f64 4607182418800017408 (pw P) = some (pw P) :=
    mul_wd (E := 1023) (P := P) (R := P) (V := 4503599627370496) (by omega) (by omega) (by omega) (by omega) (by omega) (by omega) (by omega) (by omega) (by omega)
  have hr := fun w t => run_float_arith (P := Yba.prog) w .mul t .f64 4607182418800017408 (pw P) (pw P) hm
  clear hm
  obtain ⟨z, hz⟩ : ∃ z, pw P = z := ⟨_, rfl⟩
  simp only [hz] at ht hr ⊢
  clear hz
  go_enter Yba.func18, Yba.ntmps18
  go_wp2_with (first | (go_at_call 33; refine (isinf_any 4607182418800017408 _ (by omega)).mono ?_; rintro e w1 ⟨rfl, rfl⟩) | (go_at_call 12; refine (isnan_any 4607182418800017408 _).mono ?_; rintro e w1 ⟨rfl, rfl⟩) | (go_at_call 34; refine (norm_any 4607182418800017408 _ (by omega) (by omega)).mono ?_; rintro e w1 ⟨rfl, rfl⟩))
  go_ret
  exact ⟨rfl, rfl⟩

set_option maxRecDepth 100000 in
set_option maxHeartbeats 4000000 in
theorem Ldexp_any (k : Int) (P : Nat) (w : World) (hk : k + 1023 = P) (p1 : 900 ≤ P) (p2 : P ≤ 1200) :
    Calls Yba.prog 6 #[.float .f64 4607182418800017408, .int .i64 k] w fun e w' => e = .returned (.float .f64 (pw P)) ∧ w' = w := by
  go_enter Yba.func6, Yba.ntmps6
  go_wp2_with (go_at_call 18; refine (ldexp_any k P _ hk p1 p2).mono ?_; rintro e w1 ⟨rfl, rfl⟩)
  go_ret
  exact ⟨rfl, rfl⟩

end Go.Proofs.Ybulkdiny
