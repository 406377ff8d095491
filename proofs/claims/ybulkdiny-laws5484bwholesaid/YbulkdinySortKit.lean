/- What the sort's walks need: a row of uint32s in one block. Only that the sort ends and leaves such a row is used of it. -/
import Derived.Test.YbulkdinyRows
import Derived.WalkKit
import Derived.ProofKit
import Derived.OpenShut
import Derived.ShutString
import Derived.ChangeOld
import Derived.Below
import Derived.WalkLawsBesides
import Derived.WalkSpells
import Derived.Deep.QuietTactic
import Derived.BigQuiet
import Derived.BigRegion
import Derived.Deep.OwnRows
import Derived.RegionTactic
import Derived.ChangeAlike
namespace Go.Proofs.Ybulkdiny
open Go.ChangeShapes Go.WideShapes Go.ChangeAt Go.RowKit
set_option linter.unusedVariables false

def IsU (z : Int) : Prop := 0 ≤ z ∧ z ≤ 4294967295

/-- block g holds, in its first n cells, numbers of the kind uint32; nothing of it is frozen -/
def Row (w : World) (g n : Nat) : Prop :=
  ∃ c : Array Value, w.heap[g]? = some (.cells c 25 (0, 0)) ∧ n ≤ c.size ∧ ∀ i, i < n → ∃ z : Int, IsU z ∧ c[i]? = some (.int .u32 z)

theorem Row.cell {w : World} {g n i : Nat} (h : Row w g n) (hi : i < n) : ∃ z : Int, IsU z ∧ w.cell? ⟨g, i, none⟩ = some (.int .u32 z) := by
  obtain ⟨c, hb, _, hc⟩ := h
  obtain ⟨z, hz, e⟩ := hc i hi
  exact ⟨z, hz, by simp [World.cell?, hb, e]⟩

theorem Row.frozen {w : World} {g n : Nat} (h : Row w g n) (i : Nat) : w.frozen? ⟨g, i, none⟩ = false := by
  obtain ⟨c, hb, _, _⟩ := h
  simp [World.frozen?, hb]

theorem Row.lt {w : World} {g n : Nat} (h : Row w g n) : g < w.heap.size := by
  obtain ⟨c, hb, _, _⟩ := h
  exact (Array.getElem?_eq_some_iff.1 hb).1

theorem Row.of_block {w w' : World} {g n : Nat} (h : Row w g n) (e : w'.heap[g]? = w.heap[g]?) : Row w' g n := by
  obtain ⟨c, hb, hn, hc⟩ := h
  exact ⟨c, e.trans hb, hn, hc⟩

theorem Row.drewN {w : World} {g n : Nat} (h : Row w g n) (k : Nat) : Row (w.drewN k) g n := h
theorem Row.drew {w : World} {g n : Nat} (h : Row w g n) : Row w.drew g n := h
theorem Row.alloc {w : World} {g n : Nat} (h : Row w g n) (o : Obj) : Row (w.alloc o) g n := h.of_block (Below.heap_alloc _ _ _ h.lt)

theorem Row.set {w : World} {g n : Nat} (h : Row w g n) (i : Nat) {z : Int} (hz : IsU z) : Row (w.setCell ⟨g, i, none⟩ (.int .u32 z)) g n := by
  obtain ⟨c, hb, hn, hc⟩ := h
  refine ⟨c.setIfInBounds i (.int .u32 z), by simp [World.setCell, Array.getElem?_modify, hb], by simpa using hn, fun j hj => ?_⟩
  rw [Array.getElem?_setIfInBounds]
  by_cases e : i = j
  · subst e
    rw [if_pos rfl, if_pos (by omega)]
    exact ⟨z, hz, rfl⟩
  · rw [if_neg e]
    exact hc j hj

theorem Row.setOther {w : World} {g n : Nat} (h : Row w g n) {a : Addr} (ha : g ≠ a.block) (v : Value) : Row (w.setCell a v) g n := h.of_block (Below.heap_setCell _ _ _ _ ha)

/-- nothing has turned but block g, new blocks and the draws -/
abbrev Kept (g : Nat) (w w' : World) : Prop := w.grownBy w' (some g)

theorem Kept.refl (g : Nat) (w : World) : Kept g w w := ⟨rfl, rfl, rfl, Nat.le_refl _, fun _ _ _ => rfl⟩
theorem Kept.trans {g : Nat} {a b c : World} (h : Kept g a b) (k : Kept g b c) : Kept g a c :=
  ⟨k.os.trans h.os, k.tape.trans h.tape, k.output.trans h.output, Nat.le_trans h.size k.size, fun i hi hne => (k.block i (Nat.lt_of_lt_of_le hi h.size) hne).trans (h.block i hi hne)⟩
theorem Kept.drew {g : Nat} {a b : World} (h : Kept g a b) : Kept g a b.drew := ⟨h.os, h.tape, h.output, h.size, h.block⟩
theorem Kept.drewN {g : Nat} {a b : World} (h : Kept g a b) (k : Nat) : Kept g a (b.drewN k) := ⟨h.os, h.tape, h.output, h.size, h.block⟩
theorem Kept.set {g : Nat} {a b : World} (h : Kept g a b) (i : Nat) (v : Value) : Kept g a (b.setCell ⟨g, i, none⟩ v) :=
  ⟨h.os, h.tape, h.output, by simpa using h.size, fun k hk hne => by rw [Below.heap_setCell _ _ _ _ (by simpa using hne)]; exact h.block k hk hne⟩

/-- an exchange of two cells of the row -/
theorem Row.swap {w : World} {g n : Nat} (h : Row w g n) (i j : Nat) {x y : Int} (hx : IsU x) (hy : IsU y) : Row ((w.setCell ⟨g, i, none⟩ (.int .u32 x)).setCell ⟨g, j, none⟩ (.int .u32 y)) g n := (h.set i hx).set j hy

set_option maxHeartbeats 400000 in
theorem less_any (x y : Int) (w : World) : Calls Yba.prog 28 #[.int .u32 x, .int .u32 y] w fun e w' => e = .returned (.bool (decide (x < y))) ∧ w' = w := by
  go_enter Yba.func28, Yba.ntmps28
  go_wp2
  all_goals
    go_ret
    refine ⟨?_, rfl⟩
    simp_all

/-- .. inside a region that draws its order, behind another -/
theorem less_q (x y : Int) (w : World) (k n : Nat) : Calls Yba.prog 28 #[.int .u32 x, .int .u32 y] (w.drewN (k + n)) fun e w'' => e = .returned (.bool (decide (x < y))) ∧ ∃ m, w'' = w.drewN (k + m) :=
  (less_any x y _).mono fun _ _ ⟨he, hw⟩ => ⟨he, n, hw⟩

theorem wr64 (x : Int) (y : Nat) (e : x = y) (h : y ≤ 4194304) : IntKind.i64.wrap x = (y : Int) := by
  rw [IntKind.wrap_i64]; omega
end Go.Proofs.Ybulkdiny
