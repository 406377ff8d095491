import Derived.Test.YbulkdinkMk
namespace Go.Proofs.Ybulkdink
open Go.ChangeShapes Go.WideShapes Go.ChangeAt Go.RowKit
set_option linter.unusedVariables false

structure Pl where
  n : Nat
  os : List Obj
theorem Pl.some : Nonempty Pl := ⟨⟨0, []⟩⟩

theorem region_ext {P : Program} {id : Nat} {Q : Exit → Act → World → Prop} {a : Act} {W : World} {k : Nat} {os : List Obj} {l : List Oper} (hm : P.follows .mixedOrders = true) (hB : Region.lexB .any l.toArray = true)
    (h : wpQuiet P l.toArray (fun w' => ∃ q : Pl, w' = ext W q.n q.os) (fun a' => ∀ w', (∃ q : Pl, w' = ext W q.n q.os) → Q .normal a' w') l a) : (Code.region id l.toArray true).wp P Q a (ext W k os) :=
  wp_region_quiet (C := fun w' => ∃ q : Pl, w' = ext W q.n q.os) hm hB ⟨⟨k + 1, os⟩, rfl⟩ (by simpa using h)

theorem from_pl {P : Program} {f : FuncId} {args : Array Value} {v : Value} (h : ∀ w, Calls P f args w fun e w' => e = .returned v ∧ Ext w w') (W : World) (k : Nat) (os : List Obj) :
    Calls P f args (ext W k os) fun e w' => e = .returned v ∧ ∃ q : Pl, w' = ext W q.n q.os :=
  (from_ext h W k os).mono fun e w' ⟨he, k', os', hw⟩ => ⟨he, ⟨k', os'⟩, hw⟩

theorem cell_cells {w : World} {g : Nat} {c : Array Value} {t : TypeId} {fz : Nat × Nat} (hb : w.heap[g]? = some (.cells c t fz)) (i : Nat) : w.cell? ⟨g, i, none⟩ = c[i]? := by
  simp only [World.cell?, hb]
  rfl

/-- block g holds the votes f 0 .. f (n - 1), and may be written -/
def VRow (w : World) (g n : Nat) (f : Nat → V) : Prop :=
  ∃ c : Array Value, w.heap[g]? = some (.cells c 29 (0, 0)) ∧ n * 6 ≤ c.size ∧ ∀ i, i < n →
    c[i * 6]? = some (.string ⟨#[120]⟩) ∧ c[i * 6 + 1]? = some (.string (str (f i).src)) ∧ c[i * 6 + 2]? = some (.string (str (f i).tgt)) ∧
    c[i * 6 + 3]? = some (.int .u64 (f i).s) ∧ c[i * 6 + 4]? = some (.int .u64 (f i).t) ∧ c[i * 6 + 5]? = some (f i).sg

theorem VRow.lt {w : World} {g n : Nat} {f : Nat → V} (h : VRow w g n f) : g < w.heap.size := by
  obtain ⟨c, hb, _, _⟩ := h
  exact (Array.getElem?_eq_some_iff.1 hb).1

/-- one vote of a row, its six cells, whatever is made behind it -/
structure At (W : World) (g o : Nat) (v : V) : Prop where
  c0 : ∀ n os, (ext W n os).cell? ⟨g, o, none⟩ = some (.string ⟨#[120]⟩)
  c1 : ∀ n os, (ext W n os).cell? ⟨g, o + 1, none⟩ = some (.string (str v.src))
  c2 : ∀ n os, (ext W n os).cell? ⟨g, o + 2, none⟩ = some (.string (str v.tgt))
  c3 : ∀ n os, (ext W n os).cell? ⟨g, o + 3, none⟩ = some (.int .u64 v.s)
  c4 : ∀ n os, (ext W n os).cell? ⟨g, o + 4, none⟩ = some (.int .u64 v.t)
  c5 : ∀ n os, (ext W n os).cell? ⟨g, o + 5, none⟩ = some v.sg

theorem VRow.at {w : World} {g n : Nat} {f : Nat → V} (h : VRow w g n f) {i : Nat} (hi : i < n) : At w g (i * 6) (f i) := by
  have hl := h.lt
  obtain ⟨c, hb, _, hc⟩ := h
  obtain ⟨h0, h1, h2, h3, h4, h5⟩ := hc i hi
  exact ⟨fun m os => (ext_cell (by exact hl)).trans ((cell_cells hb _).trans h0), fun m os => (ext_cell (by exact hl)).trans ((cell_cells hb _).trans h1), fun m os => (ext_cell (by exact hl)).trans ((cell_cells hb _).trans h2),
    fun m os => (ext_cell (by exact hl)).trans ((cell_cells hb _).trans h3), fun m os => (ext_cell (by exact hl)).trans ((cell_cells hb _).trans h4), fun m os => (ext_cell (by exact hl)).trans ((cell_cells hb _).trans h5)⟩

theorem VRow.of_block {w w' : World} {g n : Nat} {f : Nat → V} (h : VRow w g n f) (e : w'.heap[g]? = w.heap[g]?) : VRow w' g n f := by
  obtain ⟨c, hb, hn, hc⟩ := h
  exact ⟨c, e.trans hb, hn, hc⟩

theorem VRow.ext {w : World} {g n : Nat} {f : Nat → V} (h : VRow w g n f) (k : Nat) (os : List Obj) : VRow (Ybulkdink.ext w k os) g n f := h.of_block (ext_block h.lt)

theorem VRow.frozen {w : World} {g n : Nat} {f : Nat → V} (h : VRow w g n f) (i : Nat) : w.frozen? ⟨g, i, none⟩ = false := by
  obtain ⟨c, hb, _, _⟩ := h
  simp [World.frozen?, hb]

end Go.Proofs.Ybulkdink
