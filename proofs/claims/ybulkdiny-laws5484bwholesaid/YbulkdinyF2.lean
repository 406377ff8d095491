import Derived.Test.YbulkdinyF1
namespace Go.Proofs.Ybulkdiny
open Ieee

theorem write_number (s : Bool) (m : Nat) (e : Int) : double.write (.number s m e) = double.nearest s m e := rfl

abbrev pw (P : Nat) : Nat := wd P 4503599627370496

theorem one_eq : (4607182418800017408 : Nat) = pw 1023 := rfl
theorem two_eq : (4611686018427387904 : Nat) = pw 1024 := rfl
theorem half_eq : (4602678819172646912 : Nat) = pw 1022 := rfl

theorem mul_wd {E V : Nat} (h1 : 1 ≤ E) (h2 : E ≤ 2046) (h3 : 4503599627370496 ≤ V) (h4 : V < 9007199254740992) {P R : Nat} (p1 : 1 ≤ P) (p2 : P ≤ 2046) (r1 : 1 ≤ R) (r2 : R ≤ 2046) (hr : R + 1023 = E + P) : double.mul (wd E V) (pw P) = some (wd R V) := by
  unfold Format.mul
  rw [read_wd h1 h2 h3 h4, read_wd p1 p2 (Nat.le_refl _) (by omega)]
  simp only [Datum.product, Option.map_some, write_number, Bool.xor_false]
  congr 1
  rw [show (4503599627370496 : Nat) = 2 ^ 52 from rfl]
  exact near_up r1 r2 h3 h4 (by omega)

theorem div_wd {E V : Nat} (h1 : 1 ≤ E) (h2 : E ≤ 2046) (h3 : 4503599627370496 ≤ V) (h4 : V < 9007199254740992) {P R : Nat} (p1 : 1 ≤ P) (p2 : P ≤ 2046) (r1 : 1 ≤ R) (r2 : R ≤ 2046) (hr : R + P = E + 1023) : double.div (wd E V) (pw P) = some (wd R V) := by
  unfold Format.div
  rw [read_wd h1 h2 h3 h4, read_wd p1 p2 (Nat.le_refl _) (by omega)]
  have hd : double.fractionBits + 2 + Nat.log2 4503599627370496 - V.log2 = 54 := by
    rw [log2_V h3 h4, log2_V (V := 4503599627370496) (Nat.le_refl _) (by omega)]; rfl
  simp only [Datum.quotient, hd]
  rw [if_neg (by omega)]
  simp only [Option.map_some, write_number, Bool.xor_false, Nat.shiftLeft_eq]
  have e1 : V * 2 ^ 54 / 4503599627370496 = V * 4 := by
    rw [show V * 2 ^ 54 = V * 4 * 4503599627370496 by omega]
    exact Nat.mul_div_cancel _ (by omega)
  have e2 : V * 2 ^ 54 % 4503599627370496 = 0 := by
    rw [show V * 2 ^ 54 = V * 4 * 4503599627370496 by omega]
    exact Nat.mul_mod_left _ _
  rw [e1, e2]
  simp only [bne_self_eq_false, Bool.toNat_false, Nat.add_zero]
  congr 1
  rw [show 2 * (V * 4) = V * 2 ^ 3 by omega]
  exact near_up r1 r2 h3 h4 (by omega)

theorem add_zero_wd {E V : Nat} (h1 : 1 ≤ E) (h2 : E ≤ 2046) (h3 : 4503599627370496 ≤ V) (h4 : V < 9007199254740992) : double.add 0 (wd E V) = some (wd E V) := by
  unfold Format.add
  rw [read_wd h1 h2 h3 h4, read_pos (x := 0) (by omega), if_pos (by omega)]
  have hb : min (-1074 : Int) ((E : Int) - 1075) = -1074 := by omega
  simp only [Datum.sum, hb, signed, Bool.false_eq_true, if_false, Nat.shiftLeft_eq, Nat.zero_mul, Option.map_some, write_number]
  obtain ⟨k, hk⟩ : ∃ k : Nat, ((E : Int) - 1075 - -1074).toNat = k := ⟨_, rfl⟩
  rw [hk]
  have hp : 0 < V * 2 ^ k := Nat.mul_pos (by omega) (Nat.two_pow_pos k)
  have e1 : ((0 : Nat) : Int) + ((V * 2 ^ k : Nat) : Int) = ((V * 2 ^ k : Nat) : Int) := by simp
  rw [e1, if_neg (by omega), Int.natAbs_natCast]
  have e2 : decide (((V * 2 ^ k : Nat) : Int) < 0) = false := decide_eq_false (by omega)
  rw [e2]
  congr 1
  exact near_up h1 h2 h3 h4 (by omega)

theorem sub_self_wd {E V : Nat} (h1 : 1 ≤ E) (h2 : E ≤ 2046) (h3 : 4503599627370496 ≤ V) (h4 : V < 9007199254740992) : double.sub (wd E V) (wd E V) = some 0 := by
  unfold Format.sub
  rw [read_wd h1 h2 h3 h4]
  simp only [Datum.opposite, Datum.sum, signed, Bool.not_false, Bool.false_eq_true, if_false, if_true, Int.add_right_neg, Bool.false_and, Option.map_some, write_number]
  rfl

theorem pow_shift {n L : Nat} (hn : 0 < n) (hL : n.log2 = L) (h : L ≤ 52) : 4503599627370496 ≤ n * 2 ^ (52 - L) ∧ n * 2 ^ (52 - L) < 9007199254740992 := by
  have a1 := Nat.log2_self_le (n := n) (by omega)
  have a2 := Nat.lt_log2_self (n := n)
  rw [hL] at a1 a2
  have hp := Nat.two_pow_pos (52 - L)
  have b1 := Nat.mul_le_mul_right (2 ^ (52 - L)) a1
  have b2 := Nat.mul_lt_mul_of_pos_right a2 hp
  rw [← Nat.pow_add, show L + (52 - L) = 52 by omega] at b1
  rw [← Nat.pow_add, show L + 1 + (52 - L) = 53 by omega] at b2
  exact ⟨b1, b2⟩

theorem near_nat {n L : Nat} (hn : 0 < n) (hL : n.log2 = L) (h : L ≤ 52) : double.nearest false n 0 = wd (1023 + L) (n * 2 ^ (52 - L)) := by
  obtain ⟨b1, b2⟩ := pow_shift hn hL h
  exact near_down (a := 52 - L) (by omega) (by omega) b1 b2 rfl (by omega)

theorem ofInt_nat (n : Nat) : floatOfInt .f64 (n : Int) = double.nearest false n 0 := by
  unfold floatOfInt
  have : decide ((n : Int) < 0) = false := decide_eq_false (by omega)
  show double.write (.number (decide ((n : Int) < 0)) (n : Int).natAbs 0) = _
  rw [this, Int.natAbs_natCast]
  rfl

theorem log2_le {n : Nat} (hn : 0 < n) (h : n < 4503599627370496) : n.log2 ≤ 52 := by
  have : n.log2 < 52 := (Nat.log2_lt (by omega)).2 (by simpa using h)
  omega

/-- 'float64(n) - 1' IS 'float64(n - 1)'. -/
theorem sub_one (n : Nat) (h : n + 1 < 4503599627370496) : double.sub (floatOfInt .f64 ((n + 1 : Nat) : Int)) 4607182418800017408 = some (floatOfInt .f64 (n : Int)) := by
  rw [ofInt_nat, ofInt_nat]
  obtain ⟨L, hL⟩ : ∃ L, (n + 1).log2 = L := ⟨_, rfl⟩
  have hL52 : L ≤ 52 := hL ▸ log2_le (by omega) h
  rw [near_nat (by omega) hL hL52]
  obtain ⟨b1, b2⟩ := pow_shift (by omega) hL hL52
  unfold Format.sub
  rw [read_wd (by omega) (by omega) b1 b2, one_eq, read_wd (by omega) (by omega) (Nat.le_refl _) (by omega)]
  have hb : min (((1023 + L : Nat) : Int) - 1075) (((1023 : Nat) : Int) - 1075) = -52 := by omega
  simp only [Datum.opposite, Datum.sum, hb, signed, Bool.not_false, Bool.false_eq_true, if_false, if_true, Nat.shiftLeft_eq, Option.map_some, write_number, Bool.false_and]
  have s1 : (((1023 + L : Nat) : Int) - 1075 - -52).toNat = L := by omega
  have s2 : (((1023 : Nat) : Int) - 1075 - -52).toNat = 0 := by omega
  rw [s1, s2]
  have e0 : (n + 1) * 2 ^ (52 - L) * 2 ^ L = n * 4503599627370496 + 4503599627370496 := by
    rw [Nat.mul_assoc, ← Nat.pow_add, show 52 - L + L = 52 by omega]; omega
  rw [e0]
  have e1 : ((n * 4503599627370496 + 4503599627370496 : Nat) : Int) + -((4503599627370496 * 2 ^ 0 : Nat) : Int) = ((n * 4503599627370496 : Nat) : Int) := by omega
  rw [e1, Int.natAbs_natCast]
  rcases Nat.eq_zero_or_pos n with hn | hn
  · subst hn; rfl
  · rw [if_neg (by omega)]
    have e2 : decide (((n * 4503599627370496 : Nat) : Int) < 0) = false := decide_eq_false (by omega)
    rw [e2]
    refine congrArg some ?_
    obtain ⟨M, hM⟩ : ∃ M, n.log2 = M := ⟨_, rfl⟩
    have hM52 : M ≤ 52 := hM ▸ log2_le hn (by omega)
    rw [near_nat hn hM hM52]
    obtain ⟨c1, c2⟩ := pow_shift hn hM hM52
    have e3 : n * 4503599627370496 = n * 2 ^ (52 - M) * 2 ^ M := by
      rw [Nat.mul_assoc, ← Nat.pow_add, show 52 - M + M = 52 by omega]
    rw [e3]
    exact near_up (by omega) (by omega) c1 c2 (by omega)

/-! ### what a duration is -/
/-- nought, or a normal number whose exponent field lies between 900 and 1200 -/
def Dur (x : Nat) : Prop := x = 0 ∨ ∃ E V, x = wd E V ∧ 900 ≤ E ∧ E ≤ 1200 ∧ 4503599627370496 ≤ V ∧ V < 9007199254740992

theorem mul_dur (v P : Nat) (hv : v < 4294967296) (p1 : 940 ≤ P) (p2 : P ≤ 1100) : ∃ d, double.mul (floatOfInt .f64 (v : Int)) (pw P) = some d ∧ Dur d := by
  rw [ofInt_nat]
  rcases Nat.eq_zero_or_pos v with h | h
  · subst h
    refine ⟨0, ?_, .inl rfl⟩
    unfold Format.mul
    rw [show double.nearest false 0 0 = 0 from rfl, read_wd (by omega) (by omega) (Nat.le_refl _) (by omega), read_pos (x := 0) (by omega), if_pos (by omega)]
    simp [Datum.product, write_number, Format.nearest, Format.word]
  · obtain ⟨L, hL⟩ : ∃ L, v.log2 = L := ⟨_, rfl⟩
    have hL32 : L < 32 := hL ▸ (Nat.log2_lt (by omega)).2 (by simpa using hv)
    obtain ⟨b1, b2⟩ := pow_shift h hL (by omega)
    rw [near_nat h hL (by omega)]
    exact ⟨_, mul_wd (R := L + P) (by omega) (by omega) b1 b2 (by omega) (by omega) (by omega) (by omega) (by omega), .inr ⟨_, _, rfl, by omega, by omega, b1, b2⟩⟩

theorem wd_lt {E V : Nat} (h1 : 1 ≤ E) (h2 : E ≤ 2046) (h4 : V < 9007199254740992) : wd E V < 9218868437227405312 := by unfold wd; omega

theorem Dur.lt {x : Nat} (h : Dur x) : x < 9218868437227405312 := by
  rcases h with rfl | ⟨E, V, rfl, h1, h2, h3, h4⟩
  · omega
  · exact wd_lt (by omega) (by omega) h4

/-- the scale's exponent field -/
def sce (x : Nat) : Nat := if x = 0 then 1022 else x / 4503599627370496

theorem sce_wd {E V : Nat} (h1 : 1 ≤ E) (h3 : 4503599627370496 ≤ V) (h4 : V < 9007199254740992) : sce (wd E V) = E := by
  unfold sce wd
  rw [if_neg (by omega)]
  omega

theorem Dur.sce {x : Nat} (h : Dur x) : 900 ≤ sce x ∧ sce x ≤ 1200 := by
  rcases h with rfl | ⟨E, V, rfl, h1, h2, h3, h4⟩
  · unfold Ybulkdiny.sce; simp
  · rw [sce_wd (by omega) h3 h4]; omega

end Go.Proofs.Ybulkdiny
