import Derived.Laws.FloatArith
namespace Go.Proofs.Ybulkdiny
open Ieee

/-- the word of the normal number V * 2 ^ (E - 1075), 2^52 ≤ V < 2^53 -/
def wd (E V : Nat) : Nat := (E - 1) * 4503599627370496 + V

theorem binade_d : double.binade = 4503599627370496 := rfl
theorem least_d : double.leastPlace = -1074 := rfl
theorem inf_d : double.infRung = 9218868437227405312 := rfl
theorem sw_d : double.signWeight = 9223372036854775808 := rfl

theorem read_pos {x : Nat} (h : x < 9218868437227405312) : double.read x = if x < 4503599627370496 then .number false x (-1074) else .number false (4503599627370496 + x % 4503599627370496) (-1074 + (x / 4503599627370496 - 1 : Nat)) := by
  unfold Format.read
  simp only [binade_d, least_d, inf_d, sw_d]
  have h1 : x / 9223372036854775808 = 0 := by omega
  have h2 : x % 9223372036854775808 = x := by omega
  simp only [h1, h2]
  split
  · rfl
  · rfl

theorem read_wd {E V : Nat} (h1 : 1 ≤ E) (h2 : E ≤ 2046) (h3 : 4503599627370496 ≤ V) (h4 : V < 9007199254740992) : double.read (wd E V) = .number false V ((E : Int) - 1075) := by
  unfold wd
  rw [read_pos (by omega), if_neg (by omega)]
  congr 1 <;> omega

theorem cut_exact (V b : Nat) (neg : Bool) (hV : 0 < V) : Toward.even.cut neg (V * 2 ^ b) b = V := by
  unfold Toward.cut
  have hp : 0 < 2 ^ b := Nat.two_pow_pos b
  have hl : b ≤ (V * 2 ^ b).log2 := (Nat.le_log2 (by have := Nat.mul_pos hV hp; omega)).2 (Nat.le_mul_of_pos_left _ hV)
  have hm : min b ((V * 2 ^ b).log2 + 2) = b := by omega
  have hg : 1 <<< min b ((V * 2 ^ b).log2 + 2) = 2 ^ b := by rw [hm, Nat.shiftLeft_eq, Nat.one_mul]
  simp only [hg]
  rw [Nat.mul_div_cancel _ hp, Nat.mul_mod_left]
  have e1 : decide (2 ^ b < 2 * 0) = false := decide_eq_false (by omega)
  have e2 : (2 ^ b == 2 * 0) = false := by simp
  rw [e1, e2]
  simp

theorem log2_mul (V b : Nat) (hV : 0 < V) : (V * 2 ^ b).log2 = V.log2 + b := by
  have hp : 0 < 2 ^ b := Nat.two_pow_pos b
  have hn : V * 2 ^ b ≠ 0 := by have := Nat.mul_pos hV hp; omega
  have a1 := Nat.log2_self_le (n := V) (by omega)
  have a2 := Nat.lt_log2_self (n := V)
  apply Nat.le_antisymm
  · have : (V * 2 ^ b).log2 < V.log2 + b + 1 := (Nat.log2_lt hn).2 (by
      rw [show V.log2 + b + 1 = V.log2 + 1 + b by omega, Nat.pow_add]
      exact Nat.mul_lt_mul_of_pos_right a2 hp)
    omega
  · refine (Nat.le_log2 hn).2 ?_
    rw [Nat.pow_add]
    exact Nat.mul_le_mul_right _ a1

theorem log2_V {V : Nat} (h3 : 4503599627370496 ≤ V) (h4 : V < 9007199254740992) : V.log2 = 52 := by
  apply Nat.le_antisymm
  · have : V.log2 < 53 := (Nat.log2_lt (by omega)).2 (by simpa using h4)
    omega
  · exact (Nat.le_log2 (by omega)).2 (by simpa using h3)

/-- EXACT WRITES: the number V * 2 ^ b at a place. -/
theorem near_up {V E b : Nat} {place : Int} (h1 : 1 ≤ E) (h2 : E ≤ 2046) (h3 : 4503599627370496 ≤ V) (h4 : V < 9007199254740992) (hp : place + b = (E : Int) - 1075) : double.nearest false (V * 2 ^ b) place = wd E V := by
  have hV : 0 < V := by omega
  have hl : (V * 2 ^ b).log2 = 52 + b := by rw [log2_mul V b hV, log2_V h3 h4]
  have hn : V * 2 ^ b ≠ 0 := by have := Nat.mul_pos hV (Nat.two_pow_pos b); omega
  unfold Format.nearest
  rw [if_neg hn]
  simp only [hl, binade_d, least_d, inf_d]
  have hlast : max (place + ((52 + b : Nat) : Int) - ((double.fractionBits : Nat) : Int)) (-1074) = (E : Int) - 1075 := by
    show max (place + ((52 + b : Nat) : Int) - ((52 : Nat) : Int)) (-1074) = (E : Int) - 1075
    omega
  rw [hlast]
  have e1 : (place - ((E : Int) - 1075)).toNat = 0 := by omega
  have e2 : ((E : Int) - 1075 - place).toNat = b := by omega
  rw [e1, e2, Nat.shiftLeft_zero, cut_exact V b false hV]
  unfold Format.word wd
  simp only [Bool.false_eq_true, if_false]
  omega

theorem near_down {V E a mag : Nat} {place : Int} (h1 : 1 ≤ E) (h2 : E ≤ 2046) (h3 : 4503599627370496 ≤ V) (h4 : V < 9007199254740992) (hm : mag * 2 ^ a = V) (hp : place = (E : Int) - 1075 + a) : double.nearest false mag place = wd E V := by
  have hV : 0 < V := by omega
  have hmag : 0 < mag := by
    rcases Nat.eq_zero_or_pos mag with h | h
    · subst h; simp at hm; omega
    · exact h
  have hl : mag.log2 + a = 52 := by rw [← log2_mul mag a hmag, hm, log2_V h3 h4]
  unfold Format.nearest
  rw [if_neg (by omega)]
  simp only [binade_d, least_d, inf_d]
  have hlast : max (place + ((mag.log2 : Nat) : Int) - ((double.fractionBits : Nat) : Int)) (-1074) = (E : Int) - 1075 := by
    show max (place + ((mag.log2 : Nat) : Int) - ((52 : Nat) : Int)) (-1074) = (E : Int) - 1075
    omega
  rw [hlast]
  have e1 : (place - ((E : Int) - 1075)).toNat = a := by omega
  have e2 : ((E : Int) - 1075 - place).toNat = 0 := by omega
  rw [e1, e2, Nat.shiftLeft_eq, hm]
  have := cut_exact V 0 false hV
  rw [Nat.pow_zero, Nat.mul_one] at this
  rw [this]
  unfold Format.word wd
  simp only [Bool.false_eq_true, if_false]
  clear this e1 e2 hlast hl hmag hm
  omega

/-! the value of a rung, in units of the least place -/
def rv (x : Nat) : Nat := if x < 4503599627370496 then x else (4503599627370496 + x % 4503599627370496) * 2 ^ (x / 4503599627370496 - 1)

theorem rv_succ (x : Nat) : rv x < rv (x + 1) := by
  unfold rv
  by_cases h1 : x + 1 < 4503599627370496
  · rw [if_pos (by omega), if_pos h1]; omega
  · by_cases h2 : x < 4503599627370496
    · rw [if_pos h2, if_neg h1]
      have e1 : (x + 1) % 4503599627370496 = 0 := by omega
      have e2 : (x + 1) / 4503599627370496 - 1 = 0 := by omega
      rw [e1, e2]; omega
    · rw [if_neg h2, if_neg h1]
      by_cases h3 : x % 4503599627370496 + 1 < 4503599627370496
      · have e1 : (x + 1) % 4503599627370496 = x % 4503599627370496 + 1 := by omega
        have e2 : (x + 1) / 4503599627370496 = x / 4503599627370496 := by omega
        rw [e1, e2]
        exact Nat.mul_lt_mul_of_pos_right (by omega) (Nat.two_pow_pos _)
      · have e1 : (x + 1) % 4503599627370496 = 0 := by omega
        have e2 : (x + 1) / 4503599627370496 - 1 = (x / 4503599627370496 - 1) + 1 := by omega
        rw [e1, e2, Nat.pow_succ]
        have hp := Nat.two_pow_pos (x / 4503599627370496 - 1)
        have e3 : (4503599627370496 + 0) * (2 ^ (x / 4503599627370496 - 1) * 2) = 9007199254740992 * 2 ^ (x / 4503599627370496 - 1) := by omega
        rw [e3]
        exact Nat.mul_lt_mul_of_pos_right (by omega) hp

theorem rv_lt {x y : Nat} (h : x < y) : rv x < rv y := by
  induction y with
  | zero => omega
  | succ y ih =>
    rcases Nat.lt_or_ge x y with h' | h'
    · exact Nat.lt_trans (ih h') (rv_succ y)
    · have : x = y := by omega
      subst this; exact rv_succ x

theorem rv_cmp (x y : Nat) : compare ((rv x : Nat) : Int) ((rv y : Nat) : Int) = compare x y := by
  rcases Nat.lt_trichotomy x y with h | h | h
  · rw [Int.compare_eq_lt.2 (by have := rv_lt h; omega), Nat.compare_eq_lt.2 h]
  · subst h; rw [Int.compare_eq_eq.2 rfl, Nat.compare_eq_eq.2 rfl]
  · rw [Int.compare_eq_gt.2 (by have := rv_lt h; omega), Nat.compare_eq_gt.2 h]

theorem cmp_mul (a b k : Nat) (hk : 0 < k) : compare ((a : Nat) : Int) ((b : Nat) : Int) = compare ((a * k : Nat) : Int) ((b * k : Nat) : Int) := by
  rcases Nat.lt_trichotomy a b with h | h | h
  · rw [Int.compare_eq_lt.2 (by omega), Int.compare_eq_lt.2 (by have := Nat.mul_lt_mul_of_pos_right h hk; omega)]
  · subst h; rw [Int.compare_eq_eq.2 rfl, Int.compare_eq_eq.2 rfl]
  · rw [Int.compare_eq_gt.2 (by omega), Int.compare_eq_gt.2 (by have := Nat.mul_lt_mul_of_pos_right h hk; omega)]

theorem read_rv {x : Nat} (h : x < 9218868437227405312) : ∃ (m k : Nat), double.read x = .number false m (-1074 + (k : Int)) ∧ rv x = m * 2 ^ k := by
  rw [read_pos h]
  unfold rv
  split
  · exact ⟨x, 0, by simp, by simp⟩
  · exact ⟨_, _, rfl, rfl⟩

theorem order_pos {x y : Nat} (hx : x < 9218868437227405312) (hy : y < 9218868437227405312) : double.order x y = some (compare x y) := by
  obtain ⟨m, i, e1, r1⟩ := read_rv hx
  obtain ⟨n, j, e2, r2⟩ := read_rv hy
  unfold Format.order
  rw [e1, e2]
  simp only [Datum.order, signed, Bool.false_eq_true, if_false]
  congr 1
  rw [← rv_cmp x y, r1, r2, Nat.shiftLeft_eq, Nat.shiftLeft_eq]
  have hb : ∃ b : Nat, min (-1074 + (i : Int)) (-1074 + (j : Int)) = -1074 + (b : Int) ∧ b ≤ i ∧ b ≤ j := ⟨min i j, by omega, by omega, by omega⟩
  obtain ⟨b, hb, hbi, hbj⟩ := hb
  rw [hb]
  have f1 : (-1074 + (i : Int) - (-1074 + (b : Int))).toNat = i - b := by omega
  have f2 : (-1074 + (j : Int) - (-1074 + (b : Int))).toNat = j - b := by omega
  rw [f1, f2, cmp_mul _ _ (2 ^ b) (Nat.two_pow_pos b), Nat.mul_assoc, Nat.mul_assoc, ← Nat.pow_add, ← Nat.pow_add]
  congr 4 <;> congr 1 <;> omega

end Go.Proofs.Ybulkdiny
