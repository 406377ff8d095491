import Derived.Test.YbulkdinyG2
namespace Go.Proofs.Ybulkdiny
open Go.ChangeShapes Go.WideShapes Go.ChangeAt Go.RowKit
set_option linter.unusedVariables false

/-- block g holds n durations, and may be written -/
def DRow (w : World) (g n : Nat) : Prop :=
  ∃ c : Array Value, w.heap[g]? = some (.cells c 27 (0, 0)) ∧ n ≤ c.size ∧ ∀ i, i < n → ∃ x : Nat, Dur x ∧ c[i]? = some (.float .f64 x)

theorem DRow.cell {w : World} {g n i : Nat} (h : DRow w g n) (hi : i < n) : ∃ x : Nat, Dur x ∧ w.cell? ⟨g, i, none⟩ = some (.float .f64 x) := by
  obtain ⟨c, hb, _, hc⟩ := h
  obtain ⟨z, hz, e⟩ := hc i hi
  exact ⟨z, hz, by simp [World.cell?, hb, e]⟩

theorem DRow.frozen {w : World} {g n : Nat} (h : DRow w g n) (i : Nat) : w.frozen? ⟨g, i, none⟩ = false := by
  obtain ⟨c, hb, _, _⟩ := h
  simp [World.frozen?, hb]

theorem DRow.lt {w : World} {g n : Nat} (h : DRow w g n) : g < w.heap.size := by
  obtain ⟨c, hb, _, _⟩ := h
  exact (Array.getElem?_eq_some_iff.1 hb).1

theorem DRow.of_block {w w' : World} {g n : Nat} (h : DRow w g n) (e : w'.heap[g]? = w.heap[g]?) : DRow w' g n := by
  obtain ⟨c, hb, hn, hc⟩ := h
  exact ⟨c, e.trans hb, hn, hc⟩

theorem DRow.set {w : World} {g n : Nat} (h : DRow w g n) (i : Nat) {x : Nat} (hz : Dur x) : DRow (w.setCell ⟨g, i, none⟩ (.float .f64 x)) g n := by
  obtain ⟨c, hb, hn, hc⟩ := h
  refine ⟨c.setIfInBounds i (.float .f64 x), by simp [World.setCell, Array.getElem?_modify, hb], by simpa using hn, fun j hj => ?_⟩
  rw [Array.getElem?_setIfInBounds]
  by_cases e : i = j
  · subst e
    rw [if_pos rfl, if_pos (by omega)]
    exact ⟨x, hz, rfl⟩
  · rw [if_neg e]
    exact hc j hj

theorem DRow.new (w : World) (n : Nat) : DRow (w.alloc (.cells (madeCells #[.float .f64 0] n) 27)) w.heap.size n := by
  obtain ⟨c, hb, hs, hc⟩ := World.rowIs_made w (.float .f64 0) n 27
  exact ⟨c, hb, by omega, fun i hi => ⟨0, .inl rfl, hc i hi⟩⟩

theorem DRow.fn {w : World} {g n : Nat} (h : DRow w g n) : ∃ d : Nat → Nat, FRow w g n d ∧ ∀ i, i < n → Dur (d i) := by
  have key : ∀ i, ∃ x, i < n → Dur x ∧ w.cell? ⟨g, i, none⟩ = some (.float .f64 x) := by
    intro i
    by_cases hi : i < n
    · obtain ⟨x, h1, h2⟩ := h.cell hi
      exact ⟨x, fun _ => ⟨h1, h2⟩⟩
    · exact ⟨0, fun h => absurd h hi⟩
  exact ⟨fun i => Classical.choose (key i), fun i hi => (Classical.choose_spec (key i) hi).2, fun i hi => (Classical.choose_spec (key i) hi).1⟩


/-- what Clone of the ints gives, and what Equal says of it later -/
def IntsOk (w' : World) (a2 : Option Addr) (len2 cap2 : Nat) : Prop :=
  Calls Yba.prog 8 #[.slice a2 len2 cap2] w' fun e w'' => ∃ b2 c2, e = .returned (.slice b2 len2 c2) ∧ b2.isNone = a2.isNone ∧ w'.grownBy w'' none ∧
    ∀ w3 : World, (∀ k, k < w''.heap.size → w3.heap[k]? = w''.heap[k]?) → Calls Yba.prog 14 #[.slice b2 len2 c2, .slice a2 len2 cap2] w3 fun e w4 => e = .returned (.bool true) ∧ ∃ k, w4 = w3.drewN k

theorem Row.of_clone {w' : World} {g n : Nat} {cur : Array Value} {z : Nat → Int} (hb : w'.heap[g]? = some (.cells cur 25 (0, 0))) (hs : n ≤ cur.size) (ht : cur.toList.take n = (List.range n).map fun i => .int .u32 (z i)) (hz : ∀ i, i < n → IsU (z i)) : Row w' g n := by
  refine ⟨cur, hb, hs, fun i hi => ⟨z i, hz i hi, ?_⟩⟩
  have := congrArg (fun l => l[i]?) ht
  simp only [List.getElem?_take, hi, if_true, List.getElem?_map, List.getElem?_range, Option.map_some] at this
  simpa using this

theorem FRow.of_clone {w' : World} {g n : Nat} {cur : Array Value} {d : Nat → Nat} (hb : w'.heap[g]? = some (.cells cur 27 (0, 0))) (hs : n ≤ cur.size) (ht : cur.toList.take n = (List.range n).map fun i => .float .f64 (d i)) : FRow w' g n d := by
  intro i hi
  have := congrArg (fun l => l[i]?) ht
  simp only [List.getElem?_take, hi, if_true, List.getElem?_map, List.getElem?_range, Option.map_some] at this
  have e : cur[i]? = some (.float .f64 (d i)) := by simpa using this
  simp [World.cell?, hb, e]

theorem FRow.of_block {w w' : World} {g n : Nat} {d : Nat → Nat} (h : FRow w g n d) (e : w'.heap[g]? = w.heap[g]?) : FRow w' g n d :=
  fun i hi => (World.cell?_of_block (a := ⟨g, i, none⟩) e).trans (h i hi)

end Go.Proofs.Ybulkdiny
