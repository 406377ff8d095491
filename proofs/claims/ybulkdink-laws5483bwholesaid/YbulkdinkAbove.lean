import Derived.Test.YbulkdinkStand
namespace Go.Proofs.Ybulkdink
open Go.ChangeShapes Go.WideShapes Go.ChangeAt Go.RowKit
set_option linter.unusedVariables false

/-- the history's own block -/
def HCells (w : World) (h : Nat) (vv pv : Value) (t0 t1 : Int) : Prop :=
  w.heap[h]? = some (.cells #[.string ⟨#[120]⟩, vv, pv, .int .u64 t0, .int .u64 t1, .int .u64 0, .int .u64 0, .bool false] 37 (0, 0))

def abv (nv np : Nat) (t0 t1 : Int) (v : V) : Bool := (decide (nv = 0) && decide (np = 0)) || decide (t0 < v.s) || (decide (v.s = t0) && decide (t1 < v.t))

theorem HCells.lt {w : World} {h : Nat} {vv pv : Value} {t0 t1 : Int} (H : HCells w h vv pv t0 t1) : h < w.heap.size := (Array.getElem?_eq_some_iff.1 H).1
theorem HCells.at {w : World} {h : Nat} {vv pv : Value} {t0 t1 : Int} (H : HCells w h vv pv t0 t1) :
    (∀ n os, (ext w n os).cell? ⟨h, 0, none⟩ = some (.string ⟨#[120]⟩)) ∧ (∀ n os, (ext w n os).cell? ⟨h, 1, none⟩ = some vv) ∧ (∀ n os, (ext w n os).cell? ⟨h, 2, none⟩ = some pv) ∧
    (∀ n os, (ext w n os).cell? ⟨h, 3, none⟩ = some (.int .u64 t0)) ∧ (∀ n os, (ext w n os).cell? ⟨h, 4, none⟩ = some (.int .u64 t1)) ∧ (∀ n os, (ext w n os).cell? ⟨h, 5, none⟩ = some (.int .u64 0)) ∧
    (∀ n os, (ext w n os).cell? ⟨h, 6, none⟩ = some (.int .u64 0)) ∧ (∀ n os, (ext w n os).cell? ⟨h, 7, none⟩ = some (.bool false)) := by
  have hl := H.lt
  refine ⟨?_, ?_, ?_, ?_, ?_, ?_, ?_, ?_⟩ <;> intro n os <;> rw [ext_cell (by exact hl)] <;> rw [cell_cells H] <;> rfl

set_option maxRecDepth 100000 in
set_option maxHeartbeats 4000000 in
theorem above_any (h : Nat) (av ap : Option Addr) (nv cv np cp : Nat) (t0 t1 : Int) (v : V) (w : World) (H : HCells w h (.slice av nv cv) (.slice ap np cp) t0 t1) :
    Calls Yba.prog 12 #[.pointer (some ⟨h, 0, none⟩), v.val] w fun e w' => e = .returned (.bool (abv nv np t0 t1 v)) ∧ Ext w w' := by
  have hml := m_heights
  by_cases hA : nv = 0 ∧ np = 0
  · obtain ⟨rfl, rfl⟩ := hA
    have e : abv 0 0 t0 t1 v = true := by simp [abv]
    rw [e]
    go_enter Yba.func12, Yba.ntmps12
    go_upto_region 1 with fail
    obtain ⟨W, hW, hE, bB, hk, hs⟩ := vbox w v
    rw [hW]
    have HW : HCells W h (.slice av 0 cv) (.slice ap 0 cp) t0 t1 := (hk h H.lt).trans H
    obtain ⟨c0, c1, c2, c3, c4, c5, c6, c7⟩ := HW.at
    obtain ⟨d0, d1, d2, d3, d4, d5⟩ := bB
    obtain ⟨gb, hgb⟩ : ∃ gb, w.heap.size = gb := ⟨_, rfl⟩
    rw [hgb] at d0 d1 d2 d3 d4 d5 ⊢
    clear hW hk hs hgb
    obtain ⟨W0, k0, o0, hW0⟩ : ∃ W0 k0 o0, W0 = ext W k0 o0 ∧ W0 = W := ⟨W, 0, [], ext_zero W, rfl⟩
    rw [← hW0.2]
    obtain ⟨rfl, hW02⟩ := hW0
    clear hW02
    have F := fun k os => from_ext (fun w => heights v w) W k os
    go_wp2_with (go_at_call 39; refine (F _ _).mono ?_; rintro e w1 ⟨rfl, k1, o1, rfl⟩)
    go_ret
    exact ⟨rfl, hE.trans ⟨_, _, rfl⟩⟩
  · have hB : ¬ nv = 0 ∨ (nv = 0 ∧ ¬ np = 0) := by
      by_cases h1 : nv = 0
      · exact .inr ⟨h1, fun h2 => hA ⟨h1, h2⟩⟩
      · exact .inl h1
    have hT : (t0 < v.s) ∨ ((¬ t0 < v.s) ∧ v.s = t0 ∧ (t1 < v.t ∨ ¬ t1 < v.t)) ∨ ((¬ t0 < v.s) ∧ ¬ v.s = t0) := by omega
    have hAH : Hid (¬(nv = 0 ∧ np = 0)) := hA
    clear hA
    obtain ⟨r, hr⟩ : ∃ r, abv nv np t0 t1 v = r := ⟨_, rfl⟩
    rw [hr]
    have hrH : Hid (abv nv np t0 t1 v = r) := hr
    clear hr
    rcases hB with hB1 | ⟨rfl, hB2⟩ <;> rcases hT with hT1 | ⟨hT1, rfl, hT3 | hT3⟩ | ⟨hT1, hT2⟩
    all_goals
      go_enter Yba.func12, Yba.ntmps12
      go_upto_region 1 with fail
      obtain ⟨W, hW, hE, bB, hk, hs⟩ := vbox w v
      rw [hW]
      have HW : HCells W h _ _ _ t1 := (hk h H.lt).trans H
      obtain ⟨c0, c1, c2, c3, c4, c5, c6, c7⟩ := HW.at
      obtain ⟨d0, d1, d2, d3, d4, d5⟩ := bB
      obtain ⟨gb, hgb⟩ : ∃ gb, w.heap.size = gb := ⟨_, rfl⟩
      rw [hgb] at d0 d1 d2 d3 d4 d5 ⊢
      clear hW hk hs hgb
      obtain ⟨W0, k0, o0, hW0⟩ : ∃ W0 k0 o0, W0 = ext W k0 o0 ∧ W0 = W := ⟨W, 0, [], ext_zero W, rfl⟩
      rw [← hW0.2]
      obtain ⟨rfl, hW02⟩ := hW0
      clear hW02
      have F := fun k os => from_ext (fun w => heights v w) W k os
      go_wp2_with (go_at_call 39; refine (F _ _).mono ?_; rintro e w1 ⟨rfl, k1, o1, rfl⟩)
      go_ret
      refine ⟨?_, hE.trans ⟨_, _, rfl⟩⟩
      have hrr := hrH.out
      simp_all [abv]

end Go.Proofs.Ybulkdink
