import Derived.Test.YbulkdinkT3
namespace Go.Proofs.Ybulkdink
open Go.ChangeShapes Go.WideShapes Go.ChangeAt Go.RowKit
set_option linter.unusedVariables false
set_option linter.unusedSimpArgs false

/-- element i of a slice of plain votes, in the world of the call -/
structure Raw (w : World) (x : Addr) (i : Nat) (s t a b : Int) (g : Value) : Prop where
  c0 : w.cell? (x.add (i * 5)) = some (.int .u64 s)
  c1 : w.cell? ⟨(x.add (i * 5)).block, (x.add (i * 5)).off + 1, none⟩ = some (.int .u64 t)
  c2 : w.cell? ⟨(x.add (i * 5)).block, (x.add (i * 5)).off + 2, none⟩ = some (.int .u8 a)
  c3 : w.cell? ⟨(x.add (i * 5)).block, (x.add (i * 5)).off + 3, none⟩ = some (.int .u8 b)
  c4 : w.cell? ⟨(x.add (i * 5)).block, (x.add (i * 5)).off + 4, none⟩ = some g
  sg : ∃ p l c, g = .slice p l c
  sp : Spec w (.agg #[.int .u64 s, .int .u64 t, .int .u8 a, .int .u8 b, g])

def RawRow (w : World) (a : Option Addr) (n : Nat) : Prop := ∀ i, i < n → ∃ x, a = some x ∧ ∃ s t a b g, Raw w x i s t a b g

theorem RawRow.row {w w' : World} {a : Option Addr} {n base : Nat} (h : RawRow w a n) (hb : w.heap.size ≤ base) (k : Keep (fun k => w.heap.size ≤ k) w w') : SpecRow base w' a n := by
  intro i hi
  obtain ⟨x, hx, s, t, aa, b, g, r⟩ := h i hi
  have tr : ∀ w2, Keep (fun k => base ≤ k) w' w2 → Keep (fun k => w.heap.size ≤ k) w w2 := fun w2 k2 => k.trans (k2.weak fun j _ e => Nat.le_trans hb e)
  have cell : ∀ {p : Addr} {u : Value}, w.cell? p = some u → ∀ w2, Keep (fun k => base ≤ k) w' w2 → w2.cell? p = some u := fun {p u} hp w2 k2 =>
    (World.cell?_of_block (w := w) ((tr w2 k2).block p.block (World.block_lt_of_cell? w _ hp) (by have := World.block_lt_of_cell? w _ hp; omega))).trans hp
  exact ⟨x, hx, s, t, aa, b, g, cell r.c0, cell r.c1, cell r.c2, cell r.c3, cell r.c4, r.sg, fun w2 k2 => r.sp.keep rfl (tr w2 k2)⟩

set_option maxRecDepth 100000 in
set_option maxHeartbeats 8000000 in
theorem law_main (a0 a1 : Option Addr) (len0 cap0 len1 cap1 : Nat) (zs zt zx zy : Int) (p : Option Addr) (zl zc : Nat) (w : World) (r0 : RawRow w a0 len0) (r1 : RawRow w a1 len1) (sp : Spec w (.agg #[.int .u64 zs, .int .u64 zt, .int .u8 zx, .int .u8 zy, .slice p zl zc])) (m0 : len0 ≤ 140737488355328) (m1 : len1 ≤ 140737488355328) :
    Calls Yba.prog 3 #[.slice a0 len0 cap0, .slice a1 len1 cap1, .agg #[.int .u64 zs, .int .u64 zt, .int .u8 zx, .int .u8 zy, .slice p zl zc]] w fun e w' => e = .returned (.bool true) ∧ Below w.heap.size w w' := by
  have r0H : Hid (RawRow w a0 len0) := r0
  have r1H : Hid (RawRow w a1 len1) := r1
  have spH : Hid (Spec w (.agg #[.int .u64 zs, .int .u64 zt, .int .u8 zx, .int .u8 zy, .slice p zl zc])) := sp
  clear r0 r1 sp
  obtain ⟨W1, hW1, hE1, hB1, hs1⟩ : ∃ W1, w.alloc (Obj.cells #[.int .u64 zs, .int .u64 zt, .int .u8 zx, .int .u8 zy, .slice p zl zc] 26) = W1 ∧ Ext w W1 ∧ W1.heap[w.heap.size]? = some (.cells #[.int .u64 zs, .int .u64 zt, .int .u8 zx, .int .u8 zy, .slice p zl zc] 26 (0, 0)) ∧ W1.heap.size = w.heap.size + 1 := ⟨_, rfl, (Ext.refl w).alloc _, Deep.blk_alloc_new _ _, by simp⟩
  have K01 : Hid (Keep (fun _ => False) w W1) := hE1.keep _
  have blk : Hid (W1.heap[w.heap.size]? = some (.cells #[.int .u64 zs, .int .u64 zt, .int .u8 zx, .int .u8 zy, .slice p zl zc] 26 (0, 0)) ∧ W1.heap.size = w.heap.size + 1) := ⟨hB1, hs1⟩
  have bel : Hid (∀ w', Keep (fun k => w.heap.size ≤ k) w w' → Below w.heap.size w w') := fun w' k => ⟨k.os, k.tape, k.output, k.size, fun i hi => k.block i hi (by omega)⟩
  clear hE1 hB1 hs1
  obtain ⟨POST, hPOST⟩ : ∃ P : Ending → World → Prop, (fun e w' => e = .returned (.bool true) ∧ Below w.heap.size w w') = P := ⟨_, rfl⟩
  have postH : Hid (∀ w', Keep (fun k => w.heap.size ≤ k) w w' → POST (.returned (.bool true)) w') := fun w' k => by rw [← hPOST]; exact ⟨rfl, bel.out w' k⟩
  rw [hPOST]
  clear hPOST
  go_enter Yba.func3, Yba.ntmps3
  refine seq_hid fun K1 hK1 => ?_
  go_wp2
  refine hK1.out _ _ ?_
  clear hK1 K1
  refine seq_hid fun K2 hK2 => ?_
  by_cases h0 : 1000 < len0
  · have h0' : (1000 : Int) < (len0 : Int) := by omega
    go_wp2
    exact postH.out _ (K01.out.weak (fun _ _ e => e.elim))
  · have h0' : ¬ (1000 : Int) < (len0 : Int) := by omega
    by_cases h1 : 1000 < len1
    · have h1' : (1000 : Int) < (len1 : Int) := by omega
      go_wp2
      exact postH.out _ (K01.out.weak (fun _ _ e => e.elim))
    · have h1' : ¬ (1000 : Int) < (len1 : Int) := by omega
      go_wp2
      refine hK2.out _ _ ?_
      clear hK2 K2
      refine seq_hid fun K3 hK3 => ?_
      go_wp2
      have tr : ∀ w', Keep (fun k => W1.heap.size ≤ k) W1 w' → Keep (fun k => w.heap.size ≤ k) w w' := fun w' k => (K01.out.weak (fun _ _ e => e.elim)).trans (k.weak fun j _ e => by have := blk.out.2; omega)
      refine hK3.out _ _ (t3 POST W1.heap.size W1 w.heap.size zs zt zx zy (.slice p zl zc) a0 a1 len0 cap0 len1 cap1 (by omega) (by omega) (Nat.le_refl _) (fun w' k => r0H.out.row (by have := blk.out.2; omega) (tr w' k)) (fun w' k => r1H.out.row (by have := blk.out.2; omega) (tr w' k)) (fun w' k => ?_) (fun w' k => spH.out.keep rfl (tr w' k)) (fun w' k => postH.out w' (tr w' k)))
      have hb : w'.heap[w.heap.size]? = some (.cells #[.int .u64 zs, .int .u64 zt, .int .u8 zx, .int .u8 zy, .slice p zl zc] 26 (0, 0)) := (k.block w.heap.size (by have := blk.out.2; omega) (by have := blk.out.2; omega)).trans blk.out.1
      exact ⟨(cell_cells hb _).trans rfl, (cell_cells hb _).trans rfl, (cell_cells hb _).trans rfl, (cell_cells hb _).trans rfl, (cell_cells hb _).trans rfl⟩

end Go.Proofs.Ybulkdink
