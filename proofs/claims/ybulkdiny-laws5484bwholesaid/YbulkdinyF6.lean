import Derived.Test.YbulkdinyF5
import Derived.Deep.LoopGhost
namespace Go.Proofs.Ybulkdiny
open Go.ChangeShapes Go.WideShapes Go.ChangeAt Go.RowKit
set_option linter.unusedVariables false

theorem leq_of {x y : Nat} (hx : x < 9218868437227405312) (hy : y < 9218868437227405312) : (FloatKind.f64.format.order x y == some .lt || FloatKind.f64.format.order x y == some .eq) = decide (x ≤ y) := by
  rw [order_f64 hx hy]
  rcases Nat.lt_trichotomy x y with h | h | h
  · rw [Nat.compare_eq_lt.2 h, decide_eq_true (by omega)]; rfl
  · rw [Nat.compare_eq_eq.2 h, decide_eq_true (by omega)]; rfl
  · rw [Nat.compare_eq_gt.2 h, decide_eq_false (by omega)]; rfl

theorem gtr_of {x y : Nat} (hx : x < 9218868437227405312) (hy : y < 9218868437227405312) : (FloatKind.f64.format.order x y == some .gt) = decide (y < x) := by
  rw [order_f64 hx hy]
  rcases Nat.lt_trichotomy x y with h | h | h
  · rw [Nat.compare_eq_lt.2 h, decide_eq_false (by omega)]; rfl
  · rw [Nat.compare_eq_eq.2 h, decide_eq_false (by omega)]; rfl
  · rw [Nat.compare_eq_gt.2 h, decide_eq_true (by omega)]; rfl

theorem pw_lt (P : Nat) (h1 : 1 ≤ P) (h2 : P ≤ 2046) : pw P < 9218868437227405312 := wd_lt h1 h2 (by omega)

theorem twice (P : Nat) (h1 : 1 ≤ P) (h2 : P ≤ 2045) (t : TypeId) (w : World) :
    (binOp .mul t (.float .f64 (pw P)) (.float .f64 4611686018427387904)).run Yba.prog w = .ok (.float .f64 (pw (P + 1))) w :=
  run_float_arith w .mul t .f64 _ _ _ (mul_wd (E := P) (P := 1024) (R := P + 1) (by omega) (by omega) (Nat.le_refl _) (by omega) (by omega) (by omega) (by omega) (by omega) (by omega))

theorem halve (P : Nat) (h1 : 2 ≤ P) (h2 : P ≤ 2046) (t : TypeId) (w : World) :
    (binOp .quo t (.float .f64 (pw P)) (.float .f64 4611686018427387904)).run Yba.prog w = .ok (.float .f64 (pw (P - 1))) w :=
  run_float_arith w .quo t .f64 _ _ _ (div_wd (E := P) (P := 1024) (R := P - 1) (by omega) (by omega) (Nat.le_refl _) (by omega) (by omega) (by omega) (by omega) (by omega) (by omega))

set_option maxRecDepth 100000 in
set_option maxHeartbeats 4000000 in
theorem zzscale_any (x : Nat) (w : World) (h : Dur x) :
    Calls Yba.prog 10 #[.float .f64 x] w fun e w' => e = .returned (.float .f64 (pw (sce x))) ∧ w' = w := by
  rcases h with rfl | ⟨E, V, rfl, h1, h2, h3, h4⟩
  · have ho : (FloatKind.f64.format.order 0 0 == some .lt || FloatKind.f64.format.order 0 0 == some .eq) = true := by decide +kernel
    go_enter Yba.func10, Yba.ntmps10
    go_wp2
    go_ret
    exact ⟨rfl, rfl⟩
  · rw [sce_wd (by omega) h3 h4]
    have hlt : wd E V < 9218868437227405312 := wd_lt (by omega) (by omega) h4
    have hup : ∀ P, 1 ≤ P → (pw P ≤ wd E V ↔ P ≤ E) := by
      intro P hP; simp only [pw, wd]; omega
    have hpos : 0 < wd E V := by unfold wd; omega
    obtain ⟨x, hx⟩ : ∃ x, wd E V = x := ⟨_, rfl⟩
    rw [hx] at hlt hup hpos ⊢
    have ho : (FloatKind.f64.format.order x 0 == some .lt || FloatKind.f64.format.order x 0 == some .eq) = false := by
      rw [leq_of hlt (by omega), decide_eq_false (by omega)]
    go_enter Yba.func10, Yba.ntmps10
    go_wp2
    clear ho
    go_loopg [3] (1300 - 1022) (fun k tv wr => ∃ P : Nat, tv = .float .f64 (pw P) ∧ 1022 ≤ P ∧ P ≤ 1201 ∧ k = 1300 - P ∧ (P ≤ E ∨ P = 1022) ∧ wr = w)
    case atStart => exact ⟨1022, rfl, by omega, by omega, rfl, .inr rfl, rfl⟩
    case round =>
      obtain ⟨P, rfl, hP1, hP2, hk, hPE, rfl⟩ := hrel
      have hr := twice P (by omega) (by omega)
      have hc := leq_of (pw_lt (P + 1) (by omega) (by omega)) hlt
      have hu := hup (P + 1) (by omega)
      have hP0 := hup P (by omega)
      have hg := gtr_of (pw_lt P (by omega) (by omega)) hlt
      by_cases hle : P + 1 ≤ E
      · rw [decide_eq_true (hu.2 hle)] at hc
        obtain ⟨p, hp⟩ : ∃ p, pw P = p := ⟨_, rfl⟩
        obtain ⟨q, hq⟩ : ∃ q, pw (P + 1) = q := ⟨_, rfl⟩
        rw [hp, hq] at hr
        rw [hq] at hc
        rw [hp]
        clear hu hP0 hg
        go_wp2
        go_roundg (1300 - (P + 1))
        case measure => omega
        case rel => exact ⟨P + 1, by rw [hq], by omega, by omega, rfl, .inl hle, rfl⟩
      · rw [decide_eq_false (fun h => hle (hu.1 h))] at hc
        obtain ⟨p, hp⟩ : ∃ p, pw P = p := ⟨_, rfl⟩
        obtain ⟨q, hq⟩ : ∃ q, pw (P + 1) = q := ⟨_, rfl⟩
        rw [hp, hq] at hr
        rw [hq] at hc
        rw [hp]
        clear hu hP0 hg
        go_wp2
        clear hc hr
        go_loopg [3] P (fun k tv wq => ∃ R : Nat, tv = .float .f64 (pw R) ∧ k = R ∧ E ≤ R ∧ R ≤ P ∧ wq = wr)
        case atStart => exact ⟨P, by rw [hp], rfl, by omega, by omega, rfl⟩
        case round =>
          obtain ⟨R, rfl, hk2, hR1, hR2, rfl⟩ := hrel
          have hr := halve R (by omega) (by omega)
          have hu := hup R (by omega)
          have hg := gtr_of (pw_lt R (by omega) (by omega)) hlt
          by_cases hRE : R = E
          · rw [decide_eq_false (by have := hu.2 (by omega); omega)] at hg
            subst hRE
            obtain ⟨r, er⟩ : ∃ r, pw R = r := ⟨_, rfl⟩
            rw [er] at hg hr
            rw [er]
            clear hu
            go_wp2
            go_ret
            exact ⟨by rw [er]; rfl, rfl⟩
          · rw [decide_eq_true (by have := mt hu.1 (by omega); omega)] at hg
            obtain ⟨r, er⟩ : ∃ r, pw R = r := ⟨_, rfl⟩
            obtain ⟨r1, er1⟩ : ∃ r1, pw (R - 1) = r1 := ⟨_, rfl⟩
            rw [er] at hg
            rw [er, er1] at hr
            rw [er]
            clear hu
            go_wp2
            go_roundg (R - 1)
            case measure => omega
            case rel => exact ⟨R - 1, by rw [er1], rfl, by omega, by omega, rfl⟩

end Go.Proofs.Ybulkdiny
