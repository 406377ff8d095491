import Derived.Test.YbulkdinkFind
import Derived.Deep.AppendLies
namespace Go.Proofs.Ybulkdink
open Go.ChangeShapes Go.WideShapes Go.ChangeAt Go.RowKit
set_option linter.unusedVariables false

/-- what a call leaves of the memory that was there: all blocks but those of X -/
structure Keep (X : Nat → Prop) (w w' : World) : Prop where
  os : w'.os = w.os
  tape : w'.tape = w.tape
  output : w'.output = w.output
  size : w.heap.size ≤ w'.heap.size
  block : ∀ k, k < w.heap.size → ¬ X k → w'.heap[k]? = w.heap[k]?

theorem Keep.refl (X : Nat → Prop) (w : World) : Keep X w w := ⟨rfl, rfl, rfl, Nat.le_refl _, fun _ _ _ => rfl⟩
theorem Keep.trans {X : Nat → Prop} {a b c : World} (h : Keep X a b) (k : Keep X b c) : Keep X a c :=
  ⟨k.os.trans h.os, k.tape.trans h.tape, k.output.trans h.output, Nat.le_trans h.size k.size, fun i hi hx => (k.block i (Nat.lt_of_lt_of_le hi h.size) hx).trans (h.block i hi hx)⟩
/-- what is new to the first world does not count -/
theorem Keep.weak {X Y : Nat → Prop} {a b : World} (h : Keep X a b) (hY : ∀ k, k < a.heap.size → X k → Y k) : Keep Y a b :=
  ⟨h.os, h.tape, h.output, h.size, fun i hi hx => h.block i hi fun hX => hx (hY i hi hX)⟩
theorem Keep.alloc {X : Nat → Prop} {a w : World} (h : Keep X a w) (o : Obj) : Keep X a (w.alloc o) :=
  h.trans ⟨rfl, rfl, rfl, by simp, fun k hk _ => Below.heap_alloc _ _ _ hk⟩
theorem Keep.drew {X : Nat → Prop} {a w : World} (h : Keep X a w) : Keep X a w.drew := ⟨h.os, h.tape, h.output, h.size, h.block⟩
theorem Keep.drewN {X : Nat → Prop} {a w : World} (h : Keep X a w) (n : Nat) : Keep X a (w.drewN n) := ⟨h.os, h.tape, h.output, h.size, h.block⟩
theorem Keep.setCell {X : Nat → Prop} {a w : World} (h : Keep X a w) {p : Addr} (hp : X p.block) (u : Value) : Keep X a (w.setCell p u) :=
  h.trans ⟨rfl, rfl, rfl, by simp [World.setCell], fun k hk hx => Below.heap_setCell _ _ _ _ fun e => hx (e ▸ hp)⟩
theorem Keep.grown {X : Nat → Prop} {a w w' : World} {row : Option Nat} (h : Keep X a w) (hg : w.grownBy w' row) (hr : ∀ k, row = some k → X k) : Keep X a w' :=
  h.trans ⟨hg.os, hg.tape, hg.output, hg.size, fun k hk hx => hg.block k hk fun e => hx (hr k e.symm)⟩
theorem Ext.keep {w w' : World} (h : Ext w w') (X : Nat → Prop) : Keep X w w' := by
  obtain ⟨n, os, rfl⟩ := h
  exact ⟨rfl, rfl, rfl, by simp [ext], fun k hk _ => ext_block hk⟩

def V0 : V := ⟨0, 0, 0, 0, .slice none 0 0, []⟩
abbrev nth (xs : List V) (i : Nat) : V := xs.getD i V0
def cellsOf (xs : List V) : List Value := xs.flatMap V.list

theorem cellsOf_cons (x : V) (xs : List V) : cellsOf (x :: xs) = x.list ++ cellsOf xs := rfl
theorem cellsOf_append (xs ys : List V) : cellsOf (xs ++ ys) = cellsOf xs ++ cellsOf ys := by simp [cellsOf]
theorem cellsOf_length (xs : List V) : (cellsOf xs).length = xs.length * 6 := by
  induction xs with
  | nil => rfl
  | cons x xs ih => rw [cellsOf_cons, List.length_append, ih]; simp [V.list]; omega

theorem cellsOf_at : ∀ (xs : List V) (i j : Nat), j < 6 → i < xs.length → (cellsOf xs)[i * 6 + j]? = (nth xs i).list[j]? := by
  intro xs
  induction xs with
  | nil => intro i j hj hi; simp at hi
  | cons x xs ih =>
    intro i j hj hi
    rw [cellsOf_cons]
    cases i with
    | zero => rw [List.getElem?_append_left (by simp [V.list]; omega)]; simp
    | succ i =>
      rw [List.getElem?_append_right (by simp [V.list]; omega)]
      have e : (i + 1) * 6 + j - x.list.length = i * 6 + j := by simp [V.list]; omega
      rw [e, ih i j hj (by simpa using hi)]
      simp

/-- block g holds the votes xs, then spare room, cap in all -/
def Own (w : World) (g cap : Nat) (xs : List V) : Prop :=
  ∃ cur : Array Value, w.heap[g]? = some (.cells cur 29 (0, 0)) ∧ xs.length ≤ cap ∧ cap ≤ maxLen ∧ cur.size = cap * 6 ∧ cur.toList.take (xs.length * 6) = cellsOf xs

theorem Own.lt {w : World} {g cap : Nat} {xs : List V} (h : Own w g cap xs) : g < w.heap.size := by
  obtain ⟨c, hb, _⟩ := h
  exact (Array.getElem?_eq_some_iff.1 hb).1
theorem Own.of_block {w w' : World} {g cap : Nat} {xs : List V} (h : Own w g cap xs) (e : w'.heap[g]? = w.heap[g]?) : Own w' g cap xs := by
  obtain ⟨c, hb, r⟩ := h
  exact ⟨c, e.trans hb, r⟩
theorem Own.keep {w w' : World} {g cap : Nat} {xs : List V} {X : Nat → Prop} (h : Own w g cap xs) (k : Keep X w w') (hx : ¬ X g) : Own w' g cap xs := h.of_block (k.block g h.lt hx)

theorem Own.row {w : World} {g cap : Nat} {xs : List V} (h : Own w g cap xs) : VRow w g xs.length (nth xs) := by
  obtain ⟨cur, hb, hl, hm, hs, ht⟩ := h
  refine ⟨cur, hb, by rw [hs]; exact Nat.mul_le_mul_right 6 hl, fun i hi => ?_⟩
  have hc : ∀ j, j < 6 → cur[i * 6 + j]? = (nth xs i).list[j]? := fun j hj => by
    rw [← cellsOf_at xs i j hj hi, ← ht, List.getElem?_take, if_pos (by omega)]
    simp
  exact ⟨hc 0 (by omega), hc 1 (by omega), hc 2 (by omega), hc 3 (by omega), hc 4 (by omega), hc 5 (by omega)⟩

theorem list_one (v : V) (hs : v.sg.oneCell' = true) : ∀ u ∈ v.list, u.oneCell' = true := by
  intro u hu
  simp [V.list] at hu
  rcases hu with rfl | rfl | rfl | rfl | rfl | rfl
  · rfl
  · rfl
  · rfl
  · rfl
  · rfl
  · exact hs

theorem Own.owns {w : World} {g cap : Nat} {xs : List V} (h : Own w g cap xs) : w.ownsRow 0 29 6 (.slice (some ⟨g, 0, none⟩) xs.length cap) xs.length (cellsOf xs) := by
  obtain ⟨cur, hb, hl, hm, hs, ht⟩ := h
  exact ⟨cellsOf_length xs, .inr ⟨g, cap, cur, rfl, Nat.zero_le _, hb, hl, hm, hs, ht⟩⟩

theorem own_of_owns {w : World} {g cap n : Nat} {xs : List V} (h : w.ownsRow 0 29 6 (.slice (some ⟨g, 0, none⟩) n cap) n (cellsOf xs)) : n = xs.length ∧ Own w g cap xs := by
  have hn : n = xs.length := by have := h.1; rw [cellsOf_length] at this; omega
  subst hn
  rcases h.2 with ⟨h1, _⟩ | ⟨g', cap', cur, h1, _, hb, hl, hm, hs, ht⟩
  · cases h1
  · cases h1
    exact ⟨rfl, cur, hb, hl, hm, hs, ht⟩

theorem cellsOf_set : ∀ (xs : List V) (p : Nat) (v : V), p < xs.length → cellsOf (xs.set p v) = ((((((cellsOf xs).set (p * 6) (.string ⟨#[120]⟩)).set (p * 6 + 1) (.string (str v.src))).set (p * 6 + 2) (.string (str v.tgt))).set (p * 6 + 3) (.int .u64 v.s)).set (p * 6 + 4) (.int .u64 v.t)).set (p * 6 + 5) v.sg := by
  intro xs
  induction xs with
  | nil => intro p v h; simp at h
  | cons x xs ih =>
    intro p v h
    cases p with
    | zero => simp [cellsOf_cons, V.list, List.set]
    | succ p =>
      have e0 : (p + 1) * 6 = p * 6 + 6 := by omega
      simp only [List.set_cons_succ, cellsOf_cons, ih p v (by simpa using h), e0]
      simp [V.list, List.set]

theorem Own.set {w : World} {g cap : Nat} {xs : List V} (h : Own w g cap xs) (p : Nat) (v : V) (hp : p < xs.length) :
    Own ((((((w.setCell ⟨g, p * 6, none⟩ (.string ⟨#[120]⟩)).setCell ⟨g, p * 6 + 1, none⟩ (.string (str v.src))).setCell ⟨g, p * 6 + 2, none⟩ (.string (str v.tgt))).setCell ⟨g, p * 6 + 3, none⟩ (.int .u64 v.s)).setCell ⟨g, p * 6 + 4, none⟩ (.int .u64 v.t)).setCell ⟨g, p * 6 + 5, none⟩ v.sg) g cap (xs.set p v) := by
  obtain ⟨cur, hb, hl, hm, hs, ht⟩ := h
  have step : ∀ (w : World) (c : Array Value) (i : Nat) (u : Value), w.heap[g]? = some (.cells c 29 (0, 0)) → (w.setCell ⟨g, i, none⟩ u).heap[g]? = some (.cells (c.setIfInBounds i u) 29 (0, 0)) := fun w c i u hb => by
    simp only [World.setCell, Array.getElem?_modify, hb, Option.map_some]
    simp
  refine ⟨_, step _ _ _ _ (step _ _ _ _ (step _ _ _ _ (step _ _ _ _ (step _ _ _ _ (step _ _ _ _ hb))))), by simpa using hl, hm, by simpa using hs, ?_⟩
  rw [List.length_set, cellsOf_set xs p v hp, ← ht]
  simp [List.take_set]


theorem SigIn.keep {X : Nat → Prop} {w w' : World} {v : V} (h : SigIn w v) (k : Keep X w w') (hX : ∀ i c fz, X i → w.heap[i]? ≠ some (.cells c 5 fz)) : SigIn w' v := by
  rcases h with h | ⟨g, h1, hb⟩
  · exact .inl h
  · exact .inr ⟨g, h1, (k.block g (Array.getElem?_eq_some_iff.1 hb).1 fun hx => hX g _ _ hx hb).trans hb⟩

theorem Own.notSig {w : World} {g cap : Nat} {xs : List V} (h : Own w g cap xs) (c : Array Value) (fz : Nat × Nat) : w.heap[g]? ≠ some (.cells c 5 fz) := by
  obtain ⟨cur, hb, _⟩ := h
  rw [hb]
  simp

theorem SigIn.one {w : World} {v : V} (h : SigIn w v) : v.sg.oneCell' = true := by
  rcases h with ⟨h1, _⟩ | ⟨g, h1, _⟩ <;> rw [h1] <;> rfl

/-- a copy of v is held -/
def has (xs : List V) (v : V) : Bool := xs.any fun u => decide (cmpV u v = 0)
/-- v in the place of its copy, where its signature is the lesser -/
def put (xs : List V) (v : V) : List V := xs.map fun u => if cmpV u v = 0 ∧ sc v u < 0 then v else u
/-- in the judge's order, distinct -/
def Srt (xs : List V) : Prop := xs.Pairwise fun a b => cmpV a b < 0

theorem Srt.at {xs : List V} (h : Srt xs) (i j : Nat) (hij : i < j) (hj : j < xs.length) : cmpV (nth xs i) (nth xs j) < 0 := by
  have := List.pairwise_iff_getElem.1 h i j (by omega) hj hij
  simpa [nth, List.getD_eq_getElem?_getD, hj, show i < xs.length by omega] using this

theorem nth_mem {xs : List V} {i : Nat} (h : i < xs.length) : nth xs i ∈ xs := by
  have : nth xs i = xs[i] := by simp [nth, List.getD_eq_getElem?_getD, h]
  rw [this]; exact List.getElem_mem h

theorem cmpV_same {a b c : V} (h1 : cmpV a c = 0) (h2 : cmpV b c = 0) : cmpV a b = 0 := by
  rw [cmpV_zero] at h1 h2 ⊢
  omega

theorem put_none {xs : List V} {v : V} (h : ∀ i, i < xs.length → cmpV (nth xs i) v ≠ 0) : put xs v = xs ∧ has xs v = false := by
  have hm : ∀ u ∈ xs, cmpV u v ≠ 0 := fun u hu => by
    obtain ⟨i, hi, rfl⟩ := List.getElem_of_mem hu
    have := h i hi
    simpa [nth, List.getD_eq_getElem?_getD, hi] using this
  refine ⟨?_, ?_⟩
  · unfold put
    conv => rhs; rw [← List.map_id xs]
    exact List.map_congr_left fun u hu => by simp [hm u hu]
  · unfold has
    rw [List.any_eq_false]
    intro u hu
    simp [hm u hu]

theorem put_at {xs : List V} {v : V} (hs : Srt xs) {p : Nat} (hp : p < xs.length) (h : cmpV (nth xs p) v = 0) : has xs v = true ∧ put xs v = if sc v (nth xs p) < 0 then xs.set p v else xs := by
  refine ⟨?_, ?_⟩
  · unfold has
    rw [List.any_eq_true]
    exact ⟨_, nth_mem hp, decide_eq_true h⟩
  · apply List.ext_getElem?
    intro i
    unfold put
    rw [List.getElem?_map]
    by_cases hi : i < xs.length
    · have e : nth xs i = xs[i] := by simp [nth, List.getD_eq_getElem?_getD, hi]
      by_cases hip : i = p
      · subst hip
        rw [List.getElem?_eq_getElem hi, Option.map_some, ← e]
        by_cases hsc : sc v (nth xs i) < 0
        · rw [if_pos ⟨h, hsc⟩, if_pos hsc]; simp [hi]
        · rw [if_neg (fun hh => hsc hh.2), if_neg hsc, List.getElem?_eq_getElem hi, ← e]
      · have hne : cmpV (nth xs i) v ≠ 0 := fun h0 => by
          have h1 := cmpV_same h0 h
          rcases Nat.lt_or_gt_of_ne hip with hl | hl
          · have := hs.at i p hl hp; omega
          · have := (cmpV_swap (nth xs i) (nth xs p)).2 (hs.at p i hl hi); omega
        rw [List.getElem?_eq_getElem hi, Option.map_some, ← e, if_neg (fun hh => hne hh.1)]
        split
        · rw [List.getElem?_set_ne (Ne.symm hip), List.getElem?_eq_getElem hi, e]
        · rw [List.getElem?_eq_getElem hi, e]
    · split <;> simp [hi]

end Go.Proofs.Ybulkdink
