import Derived.Test.YbulkdinkBs
namespace Go.Proofs.Ybulkdink
open Go.ChangeShapes Go.WideShapes Go.ChangeAt Go.RowKit
set_option linter.unusedVariables false

theorem vbox (w : World) (v : V) : ∃ W, w.alloc (Obj.cells #[Value.string ⟨#[120]⟩, Value.string (str v.src), Value.string (str v.tgt), Value.int IntKind.u64 v.s, Value.int IntKind.u64 v.t, v.sg] 29) = W ∧ Ext w W ∧ Boxed W w.heap.size v ∧ (∀ k, k < w.heap.size → W.heap[k]? = w.heap[k]?) ∧ W.heap.size = w.heap.size + 1 :=
  ⟨_, rfl, (Ext.refl w).alloc _, Boxed.mk' (Deep.blk_alloc_new _ _), fun k hk => Below.heap_alloc _ _ _ hk, by simp⟩

/-- what find answers: the place p of a copy of v, or that there is none -/
def Found (f : Nat → V) (n : Nat) (v : V) (p : Nat) (b : Bool) : Prop := (b = true → p < n ∧ cmpV (f p) v = 0) ∧ (b = false → ∀ i, i < n → cmpV (f i) v ≠ 0)

def Ans (f : Nat → V) (n : Nat) (v : V) (e : Ending) : Prop := ∃ (p : Nat) (b : Bool), e = .returned (.tuple #[.int .i64 p, .bool b]) ∧ Found f n v p b

set_option maxRecDepth 100000 in
set_option maxHeartbeats 4000000 in
theorem find_none (a : Option Addr) (cap : Nat) (v : V) (w : World) :
    Calls Yba.prog 18 #[.slice a 0 cap, v.val] w fun e w' => e = .returned (.tuple #[.int .i64 0, .bool false]) ∧ Ext w w' := by
  have hPl := Pl.some
  go_enter Yba.func18, Yba.ntmps18
  go_upto_region 1 with fail
  obtain ⟨W, hW, hE, bB, hk, hs⟩ := vbox w v
  rw [hW]
  clear hW hk hs
  obtain ⟨d0, d1, d2, d3, d4, d5⟩ := bB
  obtain ⟨gb, hgb⟩ : ∃ gb, w.heap.size = gb := ⟨_, rfl⟩
  rw [hgb] at *
  obtain ⟨W0, k0, o0, hW0⟩ : ∃ W0 k0 o0, W0 = ext W k0 o0 ∧ W0 = W := ⟨W, 0, [], ext_zero W, rfl⟩
  rw [← hW0.2]
  obtain ⟨rfl, hW02⟩ := hW0
  clear hW02 hgb
  refine region_ext mixed (by kernel_rfl) ?_
  repeat (open Go.BigFrame in go_big_quiet_step ((go_at_call 14; fail)))
  refine wpQuiet_nil ?_
  rintro _ ⟨q, rfl⟩
  go_wp2
  go_ret2
  exact ⟨rfl, hE.trans ⟨_, _, rfl⟩⟩


set_option maxRecDepth 100000 in
set_option maxHeartbeats 4000000 in
theorem find_any (g n cap : Nat) (f : Nat → V) (v : V) (w : World) (h0 : 0 < n) (hn : n ≤ 1000000) (hR0 : VRow w g n f) (hok : ∀ i, i < n → (f i).Ok) (hv : v.Ok)
    (hsort : ∀ i j, i < j → j < n → cmpV (f i) (f j) < 0) :
    Calls Yba.prog 18 #[.slice (some ⟨g, 0, none⟩) n cap, v.val] w fun e w' =>
      Ans f n v e ∧ Ext w w' := by
  have S : Hid (∀ i j, i < j → j < n → cmpV (f i) (f j) < 0) := hsort
  have okH : Hid (∀ i, i < n → (f i).Ok) := hok
  clear hsort hok
  have hPl := Pl.some
  obtain ⟨p, rfl⟩ : ∃ p, n = p + 1 := ⟨n - 1, by omega⟩
  have hn0 : (((p + 1 : Nat) : Int) == 0) = false := by simp; omega
  have ep : IntKind.i64.wrap (((p + 1 : Nat) : Int) - 1) = (p : Int) := by rw [IntKind.wrap_i64] <;> omega
  have i0 : (p : Int) < ((p + 1 : Nat) : Int) := by omega
  have i1 : (0 : Int) < ((p + 1 : Nat) : Int) := by omega
  obtain ⟨N, hN⟩ : ∃ N : Nat, p + 1 = N := ⟨_, rfl⟩
  have hNH : Hid (p + 1 = N) := hN
  rw [hN] at hn0 ep i0 i1 hR0 ⊢
  go_enter Yba.func18, Yba.ntmps18
  go_upto_region 1 with fail
  obtain ⟨W, hW, hE, bB, hk, hs⟩ := vbox w v
  rw [hW]
  have hR : VRow W g N f := hR0.of_block (hk g hR0.lt)
  obtain ⟨d0, d1, d2, d3, d4, d5⟩ := bB
  obtain ⟨gb, hgb⟩ : ∃ gb, w.heap.size = gb := ⟨_, rfl⟩
  rw [hgb] at d0 d1 d2 d3 d4 d5 ⊢
  clear hW hk hs hgb hR0
  obtain ⟨W0, k0, o0, hW0⟩ : ∃ W0 k0 o0, W0 = ext W k0 o0 ∧ W0 = W := ⟨W, 0, [], ext_zero W, rfl⟩
  rw [← hW0.2]
  obtain ⟨rfl, hW02⟩ := hW0
  clear hW02
  obtain ⟨a0, a1, a2, a3, a4, a5⟩ := hR.at (i := p) (by omega)
  obtain ⟨b0, b1, b2, b3, b4, b5⟩ := hR.at (i := 0) (by omega)
  simp only [Nat.zero_mul, Nat.zero_add] at b0 b1 b2 b3 b4 b5
  have F1 := fun k os => from_pl (fun w => cmpj (f p) v w (okH.out p (by omega)) hv) W k os
  have F2 := fun k os => from_pl (fun w => cmpj (f 0) v w (okH.out 0 (by omega)) hv) W k os
  have hNI : (N : Int) = (p : Int) + 1 := by omega
  have hNIH : Hid ((N : Int) = (p : Int) + 1) := hNI
  clear hNI hN
  by_cases hc : cmpV (f p) v < 0
  · have hcd : decide (cmpV (f p) v < 0) = true := decide_eq_true hc
    refine region_ext mixed (by kernel_rfl) ?_
    repeat (open Go.BigFrame in go_big_quiet_step ((go_at_call 14; exact F1 _ _)))
    refine wpQuiet_nil ?_
    rintro _ ⟨q, rfl⟩
    go_wp2
    go_ret2
    refine ⟨⟨0, false, rfl, fun h => (by cases h), fun _ i hi => ?_⟩, hE.trans ⟨_, _, rfl⟩⟩
    have hNN := hNH.out
    by_cases e : i = p
    · subst e; omega
    · have := cmpV_trans (S.out i p (by omega) (by omega)) (c := v) (by omega)
      omega
  · have hcd : decide (cmpV (f p) v < 0) = false := decide_eq_false hc
    by_cases hc0 : cmpV (f 0) v > 0
    · have hcd0 : decide (0 < cmpV (f 0) v) = true := decide_eq_true hc0
      refine region_ext mixed (by kernel_rfl) ?_
      repeat (open Go.BigFrame in go_big_quiet_step ((go_at_call 14; first | (with_reducible exact F1 _ _) | (with_reducible exact F2 _ _))))
      refine wpQuiet_nil ?_
      rintro _ ⟨q, rfl⟩
      go_wp2
      go_ret2
      refine ⟨⟨0, false, rfl, fun h => (by cases h), fun _ i hi => ?_⟩, hE.trans ⟨_, _, rfl⟩⟩
      have hNN := hNH.out
      by_cases e : i = 0
      · subst e; omega
      · have h1 := S.out 0 i (by omega) (by omega)
        intro h2
        have := cmpV_trans h1 (c := v) (by omega)
        omega
    · have hcd0 : decide (0 < cmpV (f 0) v) = false := decide_eq_false hc0
      refine region_ext mixed (by kernel_rfl) ?_
      repeat (open Go.BigFrame in go_big_quiet_step ((go_at_call 14; first | (with_reducible exact F1 _ _) | (with_reducible exact F2 _ _))))
      refine wpQuiet_nil ?_
      rintro _ ⟨q, rfl⟩
      have F3 : ∀ k os, Calls Yba.prog 22 #[.slice (some ⟨g, 0, none⟩) N cap, v.val, fv14] (ext W k os) fun e w' => Ans f N v e ∧ Ext (ext W k os) w' := fun k os =>
        bsearch g N cap f v _ (hNH.out ▸ hn) (hR.ext k os) (hNH.out ▸ okH.out) hv (hNH.out ▸ S.out)
      go_wp2_with (go_at_call 22; refine (F3 _ _).mono ?_; rintro e w1 ⟨⟨pp, bb, rfl, hF⟩, hE1⟩)
      go_ret2
      exact ⟨⟨pp, bb, rfl, hF⟩, hE.trans (Ext.trans ⟨_, _, rfl⟩ hE1)⟩
end Go.Proofs.Ybulkdink
