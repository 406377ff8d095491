import Derived.Test.YbulkdinyF3
import Derived.Laws.BitsAllLaws
namespace Go.Proofs.Ybulkdiny
open Go.ChangeShapes Go.WideShapes Go.ChangeAt Go.RowKit
set_option linter.unusedVariables false

theorem andNot_sign (x : Nat) (h : x < 9223372036854775808) : bits .andNot .u64 (x : Int) 9223372036854775808 = (x : Int) := by
  have := u64_andNot_nat x 9223372036854775808 (by omega) (by omega)
  rw [show ((9223372036854775808 : Nat) : Int) = 9223372036854775808 from rfl] at this
  rw [this, show (18446744073709551615 - 9223372036854775808 : Nat) = 2 ^ 63 - 1 from rfl, Nat.and_two_pow_sub_one_eq_mod, Nat.mod_eq_of_lt (by simpa using h)]

theorem and_2047 (x : Nat) (h : x < 2048) : bits .and .u64 (x : Int) 2047 = (x : Int) := by
  have := u64_and_nat x 2047 (by omega) (by omega)
  rw [show ((2047 : Nat) : Int) = 2047 from rfl] at this
  rw [this, show (2047 : Nat) = 2 ^ 11 - 1 from rfl, Nat.and_two_pow_sub_one_eq_mod, Nat.mod_eq_of_lt (by simpa using h)]

theorem order_f64 {x y : Nat} (hx : x < 9218868437227405312) (hy : y < 9218868437227405312) : FloatKind.f64.format.order x y = some (compare x y) := order_pos hx hy

set_option maxRecDepth 100000 in
set_option maxHeartbeats 4000000 in
theorem abs_any (x : Nat) (w : World) (h : x < 9223372036854775808) : Calls Yba.prog 46 #[.float .f64 x] w fun e w' => e = .returned (.float .f64 x) ∧ w' = w := by
  have hb := run_bits
  have hf := run_from
  have ha := andNot_sign x h
  go_enter Yba.func46, Yba.ntmps46
  go_wp2
  go_ret
  exact ⟨by simp, rfl⟩

set_option maxRecDepth 100000 in
set_option maxHeartbeats 4000000 in
theorem isnan_any (x : Nat) (w : World) : Calls Yba.prog 12 #[.float .f64 x] w fun e w' => e = .returned (.bool (isN x)) ∧ w' = w := by
  have ho := order_self x
  go_enter Yba.func12, Yba.ntmps12
  go_wp2
  go_ret
  exact ⟨rfl, rfl⟩

theorem isN_pos {x : Nat} (h : x < 9218868437227405312) : isN x = false := by
  rw [← order_self, order_f64 h h, Nat.compare_eq_eq.2 rfl]; rfl

set_option maxRecDepth 100000 in
set_option maxHeartbeats 4000000 in
theorem sqrt_any (x : Nat) (w : World) : Calls Yba.prog 11 #[.float .f64 x] w fun e w' => e = .returned (.float .f64 (sval x w)) ∧ w' = w.drewN (sdr x) := by
  have hs := run_sqrt
  go_enter Yba.func11, Yba.ntmps11
  go_wp2
  go_ret
  exact ⟨rfl, rfl⟩

set_option maxRecDepth 100000 in
set_option maxHeartbeats 4000000 in
theorem isinf_any (x : Nat) (w : World) (h : x < 9218868437227405312) : Calls Yba.prog 33 #[.float .f64 x, .int .i64 0] w fun e w' => e = .returned (.bool false) ∧ w' = w := by
  have ho : (FloatKind.f64.format.order x 9218868437227405311 == some .gt) = false := by
    rw [order_f64 h (by omega)]
    rcases Nat.lt_or_ge x 9218868437227405311 with h' | h'
    · rw [Nat.compare_eq_lt.2 h']; rfl
    · rw [Nat.compare_eq_eq.2 (by omega)]; rfl
  go_enter Yba.func33, Yba.ntmps33
  go_wp2_with (go_at_call 46; refine (abs_any x _ (by omega)).mono ?_; rintro e w1 ⟨rfl, rfl⟩)
  go_ret
  exact ⟨rfl, rfl⟩

set_option maxRecDepth 100000 in
set_option maxHeartbeats 4000000 in
theorem norm_any (x : Nat) (w : World) (h0 : 4503599627370496 ≤ x) (h : x < 9218868437227405312) : Calls Yba.prog 34 #[.float .f64 x] w fun e w' => e = .returned (.tuple #[.float .f64 x, .int .i64 0]) ∧ w' = w := by
  have ho : (FloatKind.f64.format.order x 4503599627370496 == some .lt) = false := by
    rw [order_f64 h (by omega)]
    rcases Nat.lt_or_ge 4503599627370496 x with h' | h'
    · rw [Nat.compare_eq_gt.2 h']; rfl
    · rw [Nat.compare_eq_eq.2 (by omega)]; rfl
  go_enter Yba.func34, Yba.ntmps34
  go_wp2_with (go_at_call 46; refine (abs_any x _ (by omega)).mono ?_; rintro e w1 ⟨rfl, rfl⟩)
  go_ret2
  exact ⟨rfl, rfl⟩

end Go.Proofs.Ybulkdiny
