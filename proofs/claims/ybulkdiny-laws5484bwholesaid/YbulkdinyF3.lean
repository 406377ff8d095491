import Derived.Test.YbulkdinyF2
import Derived.Test.YbulkdinySortKit
import Derived.Laws.Externs
namespace Go.Proofs.Ybulkdiny
open Ieee
set_option linter.unusedVariables false

def isN (x : Nat) : Bool := (double.read x).isNaN

def Rep : Option Nat → Nat → Prop
  | some b, r => r = b
  | none, r => isN r = true

def fop (op : BinOp) (a b : Option Nat) : Option Nat := a.bind fun x => b.bind fun y => floatBits op .f64 x y
def fsq (a : Option Nat) : Option Nat := a.bind fun x => double.sqrt x

def nanw (t : Nat) : Nat := (t % 2) * 2 ^ 63 + 0x7ff0000000000000 + 1 + (t / 2) % (2 ^ 52 - 1)

theorem read_nan {z : Nat} (h : 9218868437227405312 < z % 9223372036854775808) : double.read z = .nan (z / 9223372036854775808 % 2 == 1) (z % 9223372036854775808 - 9218868437227405312) := by
  have e : double.read z = if z % 9223372036854775808 < 4503599627370496 then .number (z / 9223372036854775808 % 2 == 1) (z % 9223372036854775808) (-1074)
      else if z % 9223372036854775808 < 9218868437227405312 then .number (z / 9223372036854775808 % 2 == 1) (4503599627370496 + z % 9223372036854775808 % 4503599627370496) (-1074 + (z % 9223372036854775808 / 4503599627370496 - 1 : Nat))
      else if z % 9223372036854775808 = 9218868437227405312 then .infinity (z / 9223372036854775808 % 2 == 1)
      else .nan (z / 9223372036854775808 % 2 == 1) (z % 9223372036854775808 - 9218868437227405312) := rfl
  rw [e, if_neg (by omega), if_neg (by omega), if_neg (by omega)]

theorem isN_big {z : Nat} (h : 9218868437227405312 < z % 9223372036854775808) : isN z = true := by
  unfold isN
  rw [read_nan h]
  rfl

theorem nanw_isN (t : Nat) : isN (nanw t) = true := by
  refine isN_big ?_
  unfold nanw
  obtain ⟨r, hr⟩ : ∃ r, (t / 2) % (2 ^ 52 - 1) = r := ⟨_, rfl⟩
  have h1 : r < 2 ^ 52 - 1 := hr ▸ Nat.mod_lt _ (by omega)
  rw [hr]
  have h2 : t % 2 = 0 ∨ t % 2 = 1 := by omega
  rcases h2 with h2 | h2 <;> rw [h2] <;> omega

def fval (op : BinOp) (x y : Nat) (w : World) : Nat :=
  match floatBits op .f64 x y with
  | some r => r
  | none => nanw (w.tape w.drawn (.nanBits .f64 x y))
def fdr (op : BinOp) (x y : Nat) : Nat :=
  match floatBits op .f64 x y with
  | some _ => 0
  | none => 1

def sval (x : Nat) (w : World) : Nat :=
  match double.sqrt x with
  | some r => r
  | none => nanw (w.tape w.drawn (.nanBits .f64 x x))
def sdr (x : Nat) : Nat :=
  match double.sqrt x with
  | some _ => 0
  | none => 1

theorem run_fa (op : BinOp) (hop : op = .add ∨ op = .sub ∨ op = .mul ∨ op = .quo) (t : TypeId) (x y : Nat) (P : Program) (w : World) :
    (binOp op t (.float .f64 x) (.float .f64 y)).run P w = .ok (.float .f64 (fval op x y w)) (w.drewN (fdr op x y)) := by
  cases h : floatBits op .f64 x y with
  | some r =>
    rw [run_float_arith w op t .f64 x y r h]
    simp only [fval, fdr, h]
    rfl
  | none =>
    have h' := h
    unfold floatBits at h'
    rcases hop with rfl | rfl | rfl | rfl <;> (simp only at h'; simp only [fval, fdr, h]; simp [binOp, Op.floatArith, h', choose, Sem.run, Question.forced, Question.cut, nanw]; rfl)

theorem run_sqrt (x : Nat) (w : World) : (callFunc 21 #[.float .f64 x]).run Yba.prog w = .ok (.value (.float .f64 (sval x w))) (w.drewN (sdr x)) := by
  rw [run_callFunc_extern Yba.func21 (by kernel_rfl) (by kernel_rfl) (by kernel_rfl) (e := Extern.MathSqrt.sqrt) (by kernel_rfl)]
  change (Sem.run Yba.prog (match FloatKind.f64.format.sqrt x with
    | some r => pure (Value.float .f64 r)
    | none => do pure (Value.float .f64 (← choose (.nanBits .f64 x x)))) w).andThen _ = _
  cases h : double.sqrt x with
  | some r =>
    have h' : FloatKind.f64.format.sqrt x = some r := h
    simp only [sval, sdr, h, h']
    rfl
  | none =>
    have h' : FloatKind.f64.format.sqrt x = none := h
    simp only [sval, sdr, h, h']
    simp [Result.andThen, choose, Sem.run, Question.forced, Question.cut, nanw]
    rfl

theorem run_bits (x : Nat) (w : World) : (callFunc 35 #[.float .f64 x]).run Yba.prog w = .ok (.value (.int .u64 x)) w := by
  rw [run_callFunc_extern Yba.func35 (by kernel_rfl) (by kernel_rfl) (by kernel_rfl) (e := Extern.MathFloatBits.float64bits) (by kernel_rfl)]
  rfl

theorem run_from (n : Int) (w : World) : (callFunc 38 #[.int .u64 n]).run Yba.prog w = .ok (.value (.float .f64 n.toNat)) w := by
  rw [run_callFunc_extern Yba.func38 (by kernel_rfl) (by kernel_rfl) (by kernel_rfl) (e := Extern.MathFloatBits.float64frombits) (by kernel_rfl)]
  rfl

theorem isN_read {x : Nat} (h : isN x = true) : ∃ s f, double.read x = .nan s f := by
  unfold isN at h
  cases e : double.read x with
  | number s m p => rw [e] at h; cases h
  | infinity s => rw [e] at h; cases h
  | nan s f => exact ⟨s, f, rfl⟩

theorem floatBits_nan_left (op : BinOp) {x : Nat} (y : Nat) (h : isN x = true) : floatBits op .f64 x y = none := by
  obtain ⟨s, f, e⟩ := isN_read h
  have e' : FloatKind.f64.format.read x = .nan s f := e
  cases op <;> try rfl
  all_goals
    simp only [floatBits, Format.add, Format.sub, Format.mul, Format.div, e']
    generalize FloatKind.f64.format.read y = d
    cases d <;> rfl
theorem floatBits_nan_right (op : BinOp) (x : Nat) {y : Nat} (h : isN y = true) : floatBits op .f64 x y = none := by
  obtain ⟨s, f, e⟩ := isN_read h
  have e' : FloatKind.f64.format.read y = .nan s f := e
  cases op <;> try rfl
  all_goals
    simp only [floatBits, Format.add, Format.sub, Format.mul, Format.div, e', Datum.opposite]
    generalize FloatKind.f64.format.read x = d
    cases d <;> rfl

theorem Rep.op (op : BinOp) {a b : Option Nat} {x y : Nat} (ha : Rep a x) (hb : Rep b y) (w : World) : Rep (fop op a b) (fval op x y w) := by
  have none_case : floatBits op .f64 x y = none → fop op a b = none → Rep (fop op a b) (fval op x y w) := by
    intro h1 h2
    rw [h2]
    simp only [fval, h1]
    exact nanw_isN _
  cases a with
  | none => exact none_case (floatBits_nan_left op y ha) rfl
  | some p =>
    cases b with
    | none => exact none_case (floatBits_nan_right op x hb) rfl
    | some q =>
      have e1 : x = p := ha
      have e2 : y = q := hb
      subst e1 e2
      cases h : floatBits op .f64 x y with
      | none => exact none_case h h
      | some r =>
        have : fop op (some x) (some y) = some r := h
        rw [this]
        simp only [fval, h]
        rfl

theorem Rep.sq {a : Option Nat} {x : Nat} (ha : Rep a x) (w : World) : Rep (fsq a) (sval x w) := by
  cases a with
  | none =>
    obtain ⟨s, f, e⟩ := isN_read ha
    have : double.sqrt x = none := by unfold Format.sqrt; rw [e]; rfl
    simp only [sval, this]
    exact nanw_isN _
  | some p =>
    have e1 : x = p := ha
    subst e1
    cases h : double.sqrt x with
    | none =>
      have : fsq (some x) = none := h
      rw [this]; simp only [sval, h]; exact nanw_isN _
    | some r =>
      have : fsq (some x) = some r := h
      rw [this]; simp only [sval, h]; rfl

theorem order_self (x : Nat) : (FloatKind.f64.format.order x x != some .eq) = isN x := by
  show (double.order x x != some .eq) = isN x
  unfold Format.order isN
  cases double.read x with
  | number s m p =>
    have : compare (signed s m (p - min p p).toNat) (signed s m (p - min p p).toNat) = .eq := Int.compare_eq_eq.2 rfl
    simp only [Datum.order, this]; rfl
  | infinity s =>
    have : compare s.toNat s.toNat = .eq := Nat.compare_eq_eq.2 rfl
    simp only [Datum.order, this]; rfl
  | nan s f => rfl

/-! ### THE PLAIN COURSE -/
def sumF (s : Nat) (d : Nat → Nat) : Nat → Option Nat
  | 0 => some 0
  | i + 1 => fop .add (sumF s d i) (fop .quo (some (d i)) (some s))
def sqF (s : Nat) (m : Option Nat) (d : Nat → Nat) : Nat → Option Nat
  | 0 => some 0
  | i + 1 => fop .add (sqF s m d i) (fop .mul (fop .sub (fop .quo (some (d i)) (some s)) m) (fop .sub (fop .quo (some (d i)) (some s)) m))
def meanF (s : Nat) (d : Nat → Nat) (n : Nat) : Option Nat := fop .mul (fop .quo (sumF s d n) (some (floatOfInt .f64 (n : Int)))) (some s)
def devF (s : Nat) (d : Nat → Nat) (n : Nat) : Option Nat :=
  fop .mul (fsq (fop .quo (sqF s (fop .quo (meanF s d n) (some s)) d n) (some (floatOfInt .f64 ((n - 1 : Nat) : Int))))) (some s)

theorem fop_add (x y : Nat) : fop .add (some x) (some y) = double.add x y := rfl
theorem fop_sub (x y : Nat) : fop .sub (some x) (some y) = double.sub x y := rfl
theorem fop_mul (x y : Nat) : fop .mul (some x) (some y) = double.mul x y := rfl
theorem fop_quo (x y : Nat) : fop .quo (some x) (some y) = double.div x y := rfl

theorem dev_one_pos {E V : Nat} (d : Nat → Nat) (hd : d 0 = wd E V) (h1 : 1 ≤ E) (h2 : E ≤ 2046) (h3 : 4503599627370496 ≤ V) (h4 : V < 9007199254740992) : devF (pw E) d 1 = none := by
  have q1 : fop .quo (some (wd E V)) (some (pw E)) = some (wd 1023 V) := by rw [fop_quo]; exact div_wd h1 h2 h3 h4 h1 h2 (by omega) (by omega) (by omega)
  have q2 : fop .add (some 0) (some (wd 1023 V)) = some (wd 1023 V) := by rw [fop_add]; exact add_zero_wd (by omega) (by omega) h3 h4
  have e1 : floatOfInt .f64 ((1 : Nat) : Int) = pw 1023 := by decide +kernel
  have q3 : fop .quo (some (wd 1023 V)) (some (pw 1023)) = some (wd 1023 V) := by rw [fop_quo]; exact div_wd (by omega) (by omega) h3 h4 (by omega) (by omega) (by omega) (by omega) (by omega)
  have q4 : fop .mul (some (wd 1023 V)) (some (pw E)) = some (wd E V) := by rw [fop_mul]; exact mul_wd (by omega) (by omega) h3 h4 h1 h2 h1 h2 (by omega)
  have q5 : fop .sub (some (wd 1023 V)) (some (wd 1023 V)) = some 0 := by rw [fop_sub]; exact sub_self_wd (by omega) (by omega) h3 h4
  have q6 : fop .mul (some 0) (some 0) = some 0 := by decide +kernel
  have q7 : fop .add (some 0) (some 0) = some 0 := by decide +kernel
  have q8 : fop .quo (some 0) (some (floatOfInt .f64 ((0 : Nat) : Int))) = none := by decide +kernel
  simp only [devF, meanF, sumF, sqF, hd, q1, q2, e1, q3, q4, q5, q6, q7, Nat.sub_self, q8]
  rfl

theorem dev_one {d : Nat → Nat} (h : Dur (d 0)) : devF (pw (sce (d 0))) d 1 = none := by
  rcases h with h | ⟨E, V, h, h1, h2, h3, h4⟩
  · have e0 : sce (d 0) = 1022 := by rw [h]; rfl
    rw [e0]
    have q1 : fop .quo (some 0) (some (pw 1022)) = some 0 := by decide +kernel
    have q2 : fop .add (some 0) (some 0) = some 0 := by decide +kernel
    have q3 : fop .quo (some 0) (some (floatOfInt .f64 ((1 : Nat) : Int))) = some 0 := by decide +kernel
    have q4 : fop .mul (some 0) (some (pw 1022)) = some 0 := by decide +kernel
    have q5 : fop .sub (some 0) (some 0) = some 0 := by decide +kernel
    have q6 : fop .mul (some 0) (some 0) = some 0 := by decide +kernel
    have q8 : fop .quo (some 0) (some (floatOfInt .f64 ((0 : Nat) : Int))) = none := by decide +kernel
    simp only [devF, meanF, sumF, sqF, h, q1, q2, q3, q4, q5, q6, Nat.sub_self, q8]
    rfl
  · rw [h, sce_wd (by omega) h3 h4]
    exact dev_one_pos d h (by omega) (by omega) h3 h4

end Go.Proofs.Ybulkdiny
