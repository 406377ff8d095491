import Derived.Test.YbulkdinyF6
namespace Go.Proofs.Ybulkdiny
open Go.ChangeShapes Go.WideShapes Go.ChangeAt Go.RowKit
set_option linter.unusedVariables false

/-- a row of floats in block g -/
def FRow (w : World) (g n : Nat) (d : Nat → Nat) : Prop := ∀ i, i < n → w.cell? ⟨g, i, none⟩ = some (.float .f64 (d i))

theorem FRow.drewN {w : World} {g n : Nat} {d : Nat → Nat} (h : FRow w g n d) (k : Nat) : FRow (w.drewN k) g n d := h
theorem FRow.drew {w : World} {g n : Nat} {d : Nat → Nat} (h : FRow w g n d) : FRow w.drew g n d := h

set_option maxRecDepth 100000 in
set_option maxHeartbeats 4000000 in
theorem scale_any (b g n cap : Nat) (d : Nat → Nat) (w : World) (hn : 0 < n) (hn2 : n ≤ 1048576) (hb : w.cell? ⟨b, 0, none⟩ = some (.slice (some ⟨g, 0, none⟩) n cap)) (hF : FRow w g n d) (hD : Dur (d (n - 1))) :
    Calls Yba.prog 19 #[.pointer (some ⟨b, 0, none⟩)] w fun e w' => e = .returned (.float .f64 (pw (sce (d (n - 1))))) ∧ ∃ k, w' = w.drewN k := by
  obtain ⟨p, ep⟩ : ∃ p : Nat, (n : Int) - 1 = (p : Int) := ⟨n - 1, by omega⟩
  obtain rfl : n = p + 1 := by omega
  have wp := wr64 (p : Int) p rfl (by omega)
  have hp : p < p + 1 := by omega
  simp only [Nat.add_sub_cancel] at hD ⊢
  have cp : w.cell? ⟨g, p, none⟩ = some (.float .f64 (d p)) := hF p (by omega)
  have hs := hD.sce
  obtain ⟨x, hx⟩ : ∃ x, d p = x := ⟨_, rfl⟩
  rw [hx] at hD hs cp ⊢
  obtain ⟨S, hS⟩ : ∃ S, sce x = S := ⟨_, rfl⟩
  have hfx := fun w => Frexp_any x w hD
  rw [hS] at hs hfx ⊢
  go_enter Yba.func19, Yba.ntmps19
  go_wp2
  go_quiet ((go_at_call 39; exact Calls.quiet_of_same (hfx _)))
  go_wp2_with (go_at_call 6; refine (Ldexp_any _ S _ (by omega) hs.1 hs.2).mono ?_; rintro e w1 ⟨rfl, rfl⟩)
  go_ret
  exact ⟨rfl, _, rfl⟩

theorem fa_add (t : TypeId) (x y : Nat) (w : World) : (binOp .add t (.float .f64 x) (.float .f64 y)).run Yba.prog w = .ok (.float .f64 (fval .add x y w)) (w.drewN (fdr .add x y)) := run_fa .add (.inl rfl) t x y Yba.prog w
theorem fa_sub (t : TypeId) (x y : Nat) (w : World) : (binOp .sub t (.float .f64 x) (.float .f64 y)).run Yba.prog w = .ok (.float .f64 (fval .sub x y w)) (w.drewN (fdr .sub x y)) := run_fa .sub (.inr (.inl rfl)) t x y Yba.prog w
theorem fa_mul (t : TypeId) (x y : Nat) (w : World) : (binOp .mul t (.float .f64 x) (.float .f64 y)).run Yba.prog w = .ok (.float .f64 (fval .mul x y w)) (w.drewN (fdr .mul x y)) := run_fa .mul (.inr (.inr (.inl rfl))) t x y Yba.prog w
theorem fa_quo (t : TypeId) (x y : Nat) (w : World) : (binOp .quo t (.float .f64 x) (.float .f64 y)).run Yba.prog w = .ok (.float .f64 (fval .quo x y w)) (w.drewN (fdr .quo x y)) := run_fa .quo (.inr (.inr (.inr rfl))) t x y Yba.prog w

set_option maxRecDepth 100000 in
set_option maxHeartbeats 4000000 in
theorem mean_any (b g n cap : Nat) (d : Nat → Nat) (w : World) (hn : 0 < n) (hn2 : n ≤ 1048576) (hb : w.cell? ⟨b, 0, none⟩ = some (.slice (some ⟨g, 0, none⟩) n cap)) (hF : FRow w g n d) (hD : Dur (d (n - 1))) :
    Calls Yba.prog 20 #[.pointer (some ⟨b, 0, none⟩)] w fun e w' => (∃ r, e = .returned (.float .f64 r) ∧ Rep (meanF (pw (sce (d (n - 1)))) d n) r) ∧ ∃ k, w' = w.drewN k := by
  have hsc := scale_any b g n cap d w hn hn2 hb hF hD
  obtain ⟨s, hs⟩ : ∃ s, pw (sce (d (n - 1))) = s := ⟨_, rfl⟩
  rw [hs] at hsc ⊢
  have h1 := fa_add
  have h3 := fa_mul
  have h4 := fa_quo
  go_enter Yba.func20, Yba.ntmps20
  go_wp2_with (go_at_call 19; refine hsc.mono ?_; rintro e w1 ⟨rfl, k1, rfl⟩)
  go_loopg [4, 6, 14] n (fun k s4 s6 s14 wr => ∃ (i acc m : Nat), i ≤ n ∧ k = n - i ∧ s4 = .float .f64 acc ∧ s14 = .int .i64 i ∧ Rep (sumF s d i) acc ∧ wr = w.drewN m)
  case atStart => exact ⟨0, 0, k1, by omega, rfl, rfl, rfl, rfl, rfl⟩
  case round =>
    obtain ⟨i, acc, m, hi, hk, rfl, rfl, hrep, rfl⟩ := hrel
    by_cases hin : i < n
    · have hin' : (i : Int) < (n : Int) := by omega
      have ci : w.cell? ⟨g, i, none⟩ = some (.float .f64 (d i)) := hF i hin
      go_wp2
      go_roundg (n - (i + 1))
      case measure => omega
      case rel => exact ⟨i + 1, _, _, by omega, rfl, rfl, by go_num, Rep.op .add hrep (Rep.op .quo (a := some (d i)) (b := some s) rfl rfl _) _, rfl⟩
    · have hin' : ¬ ((i : Int) < (n : Int)) := by omega
      obtain rfl : i = n := by omega
      go_wp2
      go_ret
      exact ⟨⟨_, rfl, Rep.op .mul (Rep.op .quo hrep (b := some _) rfl _) (b := some s) rfl _⟩, _, rfl⟩

end Go.Proofs.Ybulkdiny
