import Derived.Test.YbulkdinkSig
namespace Go.Proofs.Ybulkdink
open Go.ChangeShapes Go.WideShapes Go.ChangeAt Go.RowKit
set_option linter.unusedVariables false

theorem run_eql_nil {P : Program} (w : World) (t e : TypeId) (a : Option Addr) (l c : Nat) (h : P.underlying t = some (.slice e)) : (binOp .eql t (.slice a l c) (.slice none 0 0)).run P w = .ok (.bool a.isNone) w := by
  simp only [binOp]
  simp [run_equal_slice_nil w t e a l c h]

theorem SigIn.form {w : World} {v : V} (h : SigIn w v) : ∃ a l c, v.sg = .slice a l c := by
  rcases h with ⟨h1, _⟩ | ⟨g, h1, _⟩
  · exact ⟨_, _, _, h1⟩
  · exact ⟨_, _, _, h1⟩

set_option maxRecDepth 100000 in
set_option maxHeartbeats 4000000 in
theorem eq_self (v : V) (w : World) (hs : SigIn w v) : Calls Yba.prog 17 #[v.val, v.val] w fun e w' => e = .returned (.bool true) ∧ Ext w w' := by
  obtain ⟨a, l, c, hf⟩ := hs.form
  have hx : ∀ o p, SigIn ((w.alloc o).alloc p) v := fun o p => by
    obtain ⟨k, os, e⟩ := ((Ext.refl w).alloc o).alloc p
    rw [e]; exact hs.ext k os
  have e1 : ((str v.src).toList == (str v.src).toList) = true := by simp
  have e2 : ((str v.tgt).toList == (str v.tgt).toList) = true := by simp
  have e3 : (v.s == v.s) = true := by simp
  have e4 : (v.t == v.t) = true := by simp
  have hb := fun w' => run_eql_nil (P := Yba.prog) w' 24 5 a l c und24
  have hq := fun o p => beq_self v _ (hx o p)
  simp only [V.val, hf] at hq ⊢
  cases hn : a.isNone
  all_goals
    rw [hn] at hb
    go_enter Yba.func17, Yba.ntmps17
    go_wp2_with (go_at_call 21; refine (hq _ _).mono ?_; rintro e w1 ⟨rfl, rfl⟩)
    go_ret
    exact ⟨rfl, ((Ext.refl w).alloc _).alloc _⟩

set_option maxRecDepth 100000 in
set_option maxHeartbeats 4000000 in
theorem eqlist_any (g1 g2 n c1 c2 : Nat) (f : Nat → V) (W : World) (hn : n ≤ 1000000) (h1 : VRow W g1 n f) (h2 : VRow W g2 n f) (hS : ∀ i, i < n → SigIn W (f i)) :
    Calls Yba.prog 10 #[.slice (some ⟨g1, 0, none⟩) n c1, .slice (some ⟨g2, 0, none⟩) n c2] W fun e w' => e = .returned (.bool true) ∧ Ext W w' := by
  have hPl := Pl.some
  go_enter Yba.func10, Yba.ntmps10
  go_wp2
  go_loopg [5] n (fun k s5 wr => ∃ i m os, i ≤ n ∧ k = n - i ∧ s5 = .int .i64 (i : Nat) ∧ wr = ext W m os)
  case atStart => exact ⟨0, 0, [], by omega, rfl, rfl, ext_zero W⟩
  case round =>
    obtain ⟨i, m, os, hi, hk, rfl, rfl⟩ := hrel
    by_cases hin : i < n
    · have hin' : (i : Int) < (n : Int) := by omega
      obtain ⟨a0, a1, a2, a3, a4, a5⟩ := h1.at hin
      obtain ⟨b0, b1, b2, b3, b4, b5⟩ := h2.at hin
      have F : ∀ k os, Calls Yba.prog 17 #[(f i).val, (f i).val] (ext W k os) fun e w' => e = .returned (.bool true) ∧ ∃ q : Pl, w' = ext W q.n q.os := fun k os =>
        (eq_self (f i) _ ((hS i hin).ext k os)).mono fun e w' ⟨he, hE⟩ => by
          obtain ⟨k', os', hw⟩ := Ext.trans ⟨k, os, rfl⟩ hE
          exact ⟨he, ⟨k', os'⟩, hw⟩
      go_wp2
      refine region_ext mixed (by kernel_rfl) ?_
      repeat (refine wpQuiet_step (fun K hK => ?_)
              go_simp
              first
                | (refine hK _ ?_; clear hK K)
                | (apply Exists.intro
                   refine ⟨fun _ => ?_, hK _ ?_⟩
                   (go_at_call 17; exact F _ _)
                   clear hK K))
      refine wpQuiet_nil ?_
      rintro _ ⟨q, rfl⟩
      go_wp2
      go_roundg (n - (i + 1))
      case measure => omega
      case rel => exact ⟨i + 1, _, _, by omega, rfl, by go_num, rfl⟩
    · have hin' : ¬ ((i : Int) < (n : Int)) := by omega
      go_wp2
      go_ret
      exact ⟨rfl, ⟨_, _, rfl⟩⟩

set_option maxRecDepth 100000 in
set_option maxHeartbeats 4000000 in
theorem eqlist_empty (a b : Option Addr) (c1 c2 : Nat) (W : World) :
    Calls Yba.prog 10 #[.slice a 0 c1, .slice b 0 c2] W fun e w' => e = .returned (.bool true) ∧ Ext W w' := by
  go_enter Yba.func10, Yba.ntmps10
  go_wp2
  go_loopg [5] 1 (fun k s5 wr => s5 = .int .i64 0 ∧ wr = W)
  case atStart => exact ⟨rfl, rfl⟩
  case round =>
    obtain ⟨rfl, rfl⟩ := hrel
    go_wp2
    go_ret
    exact ⟨rfl, Ext.refl _⟩

end Go.Proofs.Ybulkdink
