import Derived.Test.YbulkdinyF7
namespace Go.Proofs.Ybulkdiny
open Go.ChangeShapes Go.WideShapes Go.ChangeAt Go.RowKit
set_option linter.unusedVariables false

set_option maxRecDepth 100000 in
set_option maxHeartbeats 4000000 in
theorem dev_any (b g n cap : Nat) (d : Nat → Nat) (w : World) (hn : 0 < n) (hn2 : n ≤ 1048576) (hb : w.cell? ⟨b, 0, none⟩ = some (.slice (some ⟨g, 0, none⟩) n cap)) (hF : FRow w g n d) (hD : Dur (d (n - 1))) :
    Calls Yba.prog 9 #[.pointer (some ⟨b, 0, none⟩)] w fun e w' => (∃ r, e = .returned (.float .f64 r) ∧ Rep (devF (pw (sce (d (n - 1)))) d n) r) ∧ ∃ k, w' = w.drewN k := by
  have hsc := scale_any b g n cap d w hn hn2 hb hF hD
  have hmn := fun k => mean_any b g n cap d (w.drewN k) hn hn2 hb (hF.drewN k) hD
  obtain ⟨s, hs⟩ : ∃ s, pw (sce (d (n - 1))) = s := ⟨_, rfl⟩
  rw [hs] at hsc ⊢
  simp only [hs] at hmn
  obtain ⟨p, ep⟩ : ∃ p : Nat, (n : Int) - 1 = (p : Int) := ⟨n - 1, by omega⟩
  have hp : n - 1 = p := by omega
  have wp := wr64 (p : Int) p rfl (by omega)
  have h1 := fa_add
  have h2 := fa_sub
  have h3 := fa_mul
  have h4 := fa_quo
  go_enter Yba.func9, Yba.ntmps9
  go_wp2_with (first | (go_at_call 19; refine hsc.mono ?_; rintro e w1 ⟨rfl, k1, rfl⟩) | (go_at_call 20; refine (hmn _).mono ?_; rintro e w1 ⟨⟨mr, rfl, hmr⟩, k2, rfl⟩))
  have hm0 := fun w' => Rep.op .quo hmr (b := some s) (y := s) rfl w'
  obtain ⟨mm, hmm⟩ : ∃ mm, fop .quo (meanF s d n) (some s) = mm := ⟨_, rfl⟩
  simp only [hmm] at hm0
  go_loopg [5, 7, 8, 20] n (fun k s5 s7 s8 s20 wr => ∃ (i acc m : Nat), i ≤ n ∧ k = n - i ∧ s5 = .float .f64 acc ∧ s20 = .int .i64 i ∧ Rep (sqF s mm d i) acc ∧ wr = w.drewN m)
  case atStart => exact ⟨0, 0, _, by omega, rfl, rfl, rfl, rfl, rfl⟩
  case round =>
    obtain ⟨i, acc, m, hi, hk, rfl, rfl, hrep, rfl⟩ := hrel
    by_cases hin : i < n
    · have hin' : (i : Int) < (n : Int) := by omega
      have ci : w.cell? ⟨g, i, none⟩ = some (.float .f64 (d i)) := hF i hin
      go_wp2
      go_roundg (n - (i + 1))
      case measure => omega
      case rel =>
        have q1 := fun w' => Rep.op .quo (a := some (d i)) (x := d i) (b := some s) (y := s) rfl rfl w'
        have q2 := fun w' w'' w3 => Rep.op .sub (q1 w') (hm0 w'') w3
        exact ⟨i + 1, _, _, by omega, rfl, rfl, by go_num, Rep.op .add hrep (Rep.op .mul (q2 _ _ _) (q2 _ _ _) _) _, rfl⟩
    · have hin' : ¬ ((i : Int) < (n : Int)) := by omega
      obtain rfl : i = n := by omega
      go_wp2_with (go_at_call 11; refine (sqrt_any _ _).mono ?_; rintro e w1 ⟨rfl, rfl⟩)
      go_ret
      refine ⟨⟨_, rfl, ?_⟩, _, rfl⟩
      unfold devF
      rw [hmm, hp]
      exact Rep.op .mul (Rep.sq (Rep.op .quo hrep (b := some _) rfl _) _) (b := some s) rfl _

end Go.Proofs.Ybulkdiny
