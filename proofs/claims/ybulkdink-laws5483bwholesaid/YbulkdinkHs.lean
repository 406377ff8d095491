import Derived.Test.YbulkdinkMerge
namespace Go.Proofs.Ybulkdink
open Go.ChangeShapes Go.WideShapes Go.ChangeAt Go.RowKit
set_option linter.unusedVariables false

/-- a run's slice -/
abbrev ent (G C : Nat → Nat) (R : Nat → List V) (i : Nat) : Value := .slice (some ⟨G i, 0, none⟩) (R i).length (C i)
def ents (G C : Nat → Nat) (R : Nat → List V) (n : Nat) : List Value := (List.range n).map (ent G C R)

theorem ents_length (G C : Nat → Nat) (R : Nat → List V) (n : Nat) : (ents G C R n).length = n := by simp [ents]
theorem ents_at (G C : Nat → Nat) (R : Nat → List V) (n i : Nat) (h : i < n) : (ents G C R n)[i]? = some (ent G C R i) := by simp [ents, h]
theorem ents_succ (G C : Nat → Nat) (R : Nat → List V) (n : Nat) : ents G C R (n + 1) = ents G C R n ++ [ent G C R n] := by simp [ents, List.range_succ]

/-- the blocks of a history -/
def foot (h : Nat) (vv pv : Value) (n : Nat) (G : Nat → Nat) (k : Nat) : Prop := k = h ∨ vv.ownBlock = some k ∨ pv.ownBlock = some k ∨ ∃ i, i < n ∧ G i = k

structure Hist (base : Nat) (w : World) (h : Nat) (vv pv : Value) (vs : List V) (n : Nat) (G C : Nat → Nat) (R : Nat → List V) (t0 t1 : Int) : Prop where
  hb : base ≤ h
  cells : HCells w h vv pv t0 t1
  vown : w.ownsRow base 29 6 vv vs.length (cellsOf vs)
  pown : w.ownsRow base 27 1 pv n (ents G C R n)
  rows : ∀ i, i < n → Own w (G i) (C i) (R i)
  gb : ∀ i, i < n → base ≤ G i
  inj : ∀ i j, i < j → j < n → G i ≠ G j
  vne : ∀ i, i < n → vv.ownBlock ≠ some (G i)

theorem owns_type {w : World} {base e size n : Nat} {v : Value} {xs : List Value} (h : w.ownsRow base e size v n xs) {k : Nat} (hk : v.ownBlock = some k) : ∃ c, w.heap[k]? = some (.cells c e (0, 0)) := by
  rcases h.2 with ⟨rfl, _⟩ | ⟨g, cap, cur, rfl, _, hb, _⟩
  · cases hk
  · cases hk
    exact ⟨cur, hb⟩

theorem owns_of_block {w w' : World} {base e size n : Nat} {v : Value} {xs : List Value} (h : w.ownsRow base e size v n xs) (hk : ∀ k, v.ownBlock = some k → w'.heap[k]? = w.heap[k]?) : w'.ownsRow base e size v n xs := by
  refine ⟨h.1, ?_⟩
  rcases h.2 with h1 | ⟨g, cap, cur, rfl, hb, hg, r⟩
  · exact .inl h1
  · exact .inr ⟨g, cap, cur, rfl, hb, (hk g rfl).trans hg, r⟩

section
variable {base : Nat} {w : World} {h : Nat} {vv pv : Value} {vs : List V} {n : Nat} {G C : Nat → Nat} {R : Nat → List V} {t0 t1 : Int}

theorem Hist.lt (H : Hist base w h vv pv vs n G C R t0 t1) : ∀ k, foot h vv pv n G k → k < w.heap.size := by
  rintro k (rfl | hk | hk | ⟨i, hi, rfl⟩)
  · exact H.cells.lt
  · exact (H.vown.lt k hk).2
  · exact (H.pown.lt k hk).2
  · exact (H.rows i hi).lt

theorem Hist.ge (H : Hist base w h vv pv vs n G C R t0 t1) : ∀ k, foot h vv pv n G k → base ≤ k := by
  rintro k (rfl | hk | hk | ⟨i, hi, rfl⟩)
  · exact H.hb
  · exact (H.vown.lt k hk).1
  · exact (H.pown.lt k hk).1
  · exact H.gb i hi

theorem Hist.notSig (H : Hist base w h vv pv vs n G C R t0 t1) : ∀ k c fz, foot h vv pv n G k → w.heap[k]? ≠ some (.cells c 5 fz) := by
  rintro k c fz (rfl | hk | hk | ⟨i, hi, rfl⟩) he
  · have := H.cells; unfold HCells at this; rw [this] at he; simp at he
  · obtain ⟨c', hb⟩ := owns_type H.vown hk; rw [hb] at he; simp at he
  · obtain ⟨c', hb⟩ := owns_type H.pown hk; rw [hb] at he; simp at he
  · exact (H.rows i hi).notSig _ _ he

theorem Hist.keep {w' : World} {X : Nat → Prop} (H : Hist base w h vv pv vs n G C R t0 t1) (k : Keep X w w') (hX : ∀ i, foot h vv pv n G i → ¬ X i) : Hist base w' h vv pv vs n G C R t0 t1 where
  hb := H.hb
  cells := (k.block h H.cells.lt (hX h (.inl rfl))).trans H.cells
  vown := owns_of_block H.vown fun i hi => k.block i (H.vown.lt i hi).2 (hX i (.inr (.inl hi)))
  pown := owns_of_block H.pown fun i hi => k.block i (H.pown.lt i hi).2 (hX i (.inr (.inr (.inl hi))))
  rows := fun i hi => (H.rows i hi).keep k (hX _ (.inr (.inr (.inr ⟨i, hi, rfl⟩))))
  gb := H.gb
  inj := H.inj
  vne := H.vne

/-- the history's block and the outer row are no rows of votes -/
theorem Hist.hv (H : Hist base w h vv pv vs n G C R t0 t1) : vv.ownBlock ≠ some h := fun e => by
  obtain ⟨c, hb⟩ := owns_type H.vown e
  have := H.cells; unfold HCells at this; rw [this] at hb; simp at hb
theorem Hist.hp (H : Hist base w h vv pv vs n G C R t0 t1) : pv.ownBlock ≠ some h := fun e => by
  obtain ⟨c, hb⟩ := owns_type H.pown e
  have := H.cells; unfold HCells at this; rw [this] at hb; simp at hb
theorem Hist.hg (H : Hist base w h vv pv vs n G C R t0 t1) (i : Nat) (hi : i < n) : G i ≠ h := fun e => by
  obtain ⟨c, hb, _⟩ := H.rows i hi
  rw [e] at hb
  have := H.cells; unfold HCells at this; rw [this] at hb; simp at hb
theorem Hist.pg (H : Hist base w h vv pv vs n G C R t0 t1) (i : Nat) (hi : i < n) : pv.ownBlock ≠ some (G i) := fun e => by
  obtain ⟨c, hb⟩ := owns_type H.pown e
  obtain ⟨c2, hb2, _⟩ := H.rows i hi
  rw [hb] at hb2; simp at hb2
theorem Hist.pvn (H : Hist base w h vv pv vs n G C R t0 t1) (k : Nat) (e : pv.ownBlock = some k) : vv.ownBlock ≠ some k := fun e2 => by
  obtain ⟨c, hb⟩ := owns_type H.pown e
  obtain ⟨c2, hb2⟩ := owns_type H.vown e2
  rw [hb] at hb2; simp at hb2
end

/-- the votes of runs a .. b - 1, one behind the other -/
def cat (R : Nat → List V) (a b : Nat) : List V := (List.range' a (b - a)).flatMap R
theorem cat_nil (R : Nat → List V) (a b : Nat) (h : b ≤ a) : cat R a b = [] := by simp [cat, show b - a = 0 by omega]
theorem cat_front (R : Nat → List V) (a b : Nat) (h : a < b) : cat R a b = R a ++ cat R (a + 1) b := by
  unfold cat
  obtain ⟨d, hd⟩ : ∃ d, b - a = d + 1 := ⟨b - a - 1, by omega⟩
  rw [hd, show b - (a + 1) = d by omega, List.range'_succ]
  simp
theorem cat_back (R : Nat → List V) (a b : Nat) (h : a ≤ b) : cat R a (b + 1) = cat R a b ++ R b := by
  unfold cat
  rw [show b + 1 - a = (b - a) + 1 by omega, List.range'_1_concat]
  simp [show a + (b - a) = b by omega]
theorem flatMap_same {R S : Nat → List V} : ∀ (l : List Nat), (∀ x ∈ l, R x = S x) → l.flatMap R = l.flatMap S
  | [], _ => rfl
  | x :: l, h => by rw [List.flatMap_cons, List.flatMap_cons, h x (by simp), flatMap_same l fun y hy => h y (by simp [hy])]
theorem cat_congr {R S : Nat → List V} {a b : Nat} (h : ∀ i, a ≤ i → i < b → R i = S i) : cat R a b = cat S a b :=
  flatMap_same _ fun x hx => by rw [List.mem_range'_1] at hx; exact h x hx.1 (by omega)
theorem cat_mem {R : Nat → List V} {a b : Nat} {u : V} : u ∈ cat R a b ↔ ∃ i, a ≤ i ∧ i < b ∧ u ∈ R i := by
  unfold cat
  rw [List.mem_flatMap]
  constructor
  · rintro ⟨i, hi, hu⟩
    rw [List.mem_range'_1] at hi
    exact ⟨i, hi.1, by omega, hu⟩
  · rintro ⟨i, h1, h2, hu⟩
    exact ⟨i, by rw [List.mem_range'_1]; omega, hu⟩

/-- how far the runs are merged back: m runs, the last of length tl; L: the lengths of the others -/
def stop (L : Nat → Nat) : Nat → Nat → Nat
  | 0, _ => 0
  | 1, _ => 1
  | m + 2, tl => if 2 * tl > L m then stop L (m + 1) (tl + L m) else m + 2

def upd {α : Type} (f : Nat → α) (i : Nat) (x : α) (j : Nat) : α := if j = i then x else f j
theorem upd_same {α : Type} (f : Nat → α) (i : Nat) (x : α) : upd f i x i = x := by simp [upd]
theorem upd_ne {α : Type} (f : Nat → α) (i j : Nat) (x : α) (h : j ≠ i) : upd f i x j = f j := by simp [upd, h]

theorem HCells.setTop {w : World} {h : Nat} {vv pv : Value} {t0 t1 : Int} (H : HCells w h vv pv t0 t1) (s t : Int) : HCells ((w.setCell ⟨h, 3, none⟩ (.int .u64 s)).setCell ⟨h, 4, none⟩ (.int .u64 t)) h vv pv s t := by
  unfold HCells at *
  simp only [World.setCell, Array.getElem?_modify, H, Option.map_some]
  simp
theorem HCells.setPend {w : World} {h : Nat} {vv pv : Value} {t0 t1 : Int} (H : HCells w h vv pv t0 t1) (x : Value) : HCells (w.setCell ⟨h, 2, none⟩ x) h vv x t0 t1 := by
  unfold HCells at *
  simp only [World.setCell, Array.getElem?_modify, H, Option.map_some]
  simp

theorem owns_set1 {w : World} {base n gp cp : Nat} {es : List Value} (H : w.ownsRow base 27 1 (.slice (some ⟨gp, 0, none⟩) n cp) n es) (i : Nat) (hi : i < n) (x : Value) :
    (w.setCell ⟨gp, i, none⟩ x).ownsRow base 27 1 (.slice (some ⟨gp, 0, none⟩) n cp) n (es.set i x) := by
  refine ⟨by simpa using H.1, .inr ?_⟩
  rcases H.2 with ⟨h1, _⟩ | ⟨g, cap, cur, h1, hb, hg, hl, hm, hs, ht⟩
  · cases h1
  · cases h1
    refine ⟨gp, cp, cur.setIfInBounds i x, rfl, hb, ?_, hl, hm, by simpa using hs, ?_⟩
    · simp only [World.setCell, Array.getElem?_modify, hg, Option.map_some]
      simp
    · rw [← ht]
      simp [List.take_set]

theorem ents_set (G C : Nat → Nat) (R : Nat → List V) (n i g c : Nat) (M : List V) (hi : i < n) : (ents G C R n).set i (.slice (some ⟨g, 0, none⟩) M.length c) = ents (upd G i g) (upd C i c) (upd R i M) n := by
  apply List.ext_getElem?
  intro j
  by_cases hj : j < n
  · rw [ents_at _ _ _ n j hj]
    by_cases e : j = i
    · subst e
      rw [List.getElem?_set_self (by rw [ents_length]; exact hj)]
      simp [ent, upd]
    · rw [List.getElem?_set_ne (Ne.symm e), ents_at _ _ _ n j hj]
      simp [ent, upd, e]
  · rw [List.getElem?_eq_none (by simp [ents_length]; omega), List.getElem?_eq_none (by simp [ents_length]; omega)]

theorem ents_congr {G C G' C' : Nat → Nat} {R R' : Nat → List V} {n : Nat} (h : ∀ i, i < n → ent G C R i = ent G' C' R' i) : ents G C R n = ents G' C' R' n := by
  unfold ents
  exact List.map_congr_left fun i hi => h i (by simpa using hi)

theorem ents_take (G C : Nat → Nat) (R : Nat → List V) (n m : Nat) (h : m ≤ n) : (ents G C R n).take m = ents G C R m := by
  unfold ents
  rw [← List.map_take, List.take_range, Nat.min_eq_left h]

theorem put_length (xs : List V) (v : V) : (put xs v).length = xs.length := by simp [put]

section
variable {base : Nat} {w : World} {h : Nat} {vv pv : Value} {vs : List V} {n : Nat} {G C : Nat → Nat} {R : Nat → List V} {t0 t1 : Int}

/-- top is set -/
theorem Hist.setTop (H : Hist base w h vv pv vs n G C R t0 t1) (s t : Int) :
    Hist base ((w.setCell ⟨h, 3, none⟩ (.int .u64 s)).setCell ⟨h, 4, none⟩ (.int .u64 t)) h vv pv vs n G C R s t ∧ Keep (· = h) w ((w.setCell ⟨h, 3, none⟩ (.int .u64 s)).setCell ⟨h, 4, none⟩ (.int .u64 t)) := by
  have K : Keep (· = h) w ((w.setCell ⟨h, 3, none⟩ (.int .u64 s)).setCell ⟨h, 4, none⟩ (.int .u64 t)) := ((Keep.refl _ w).setCell (by rfl) _).setCell (by rfl) _
  refine ⟨⟨H.hb, H.cells.setTop s t, owns_of_block H.vown fun i hi => K.block i (H.vown.lt i hi).2 fun e => H.hv (e ▸ hi), owns_of_block H.pown fun i hi => K.block i (H.pown.lt i hi).2 fun e => H.hp (e ▸ hi),
    fun i hi => (H.rows i hi).keep K (H.hg i hi), H.gb, H.inj, H.vne⟩, K⟩

/-- v in the place of its copy among the judged votes -/
theorem Hist.putVotes {w' : World} {gv cv : Nat} (H : Hist base w h (.slice (some ⟨gv, 0, none⟩) vs.length cv) pv vs n G C R t0 t1) (v : V) (hO : Own w' gv cv (put vs v)) (K : Keep (· = gv) w w') : Hist base w' h (.slice (some ⟨gv, 0, none⟩) vs.length cv) pv (put vs v) n G C R t0 t1 := by
  have hgv : base ≤ gv := (H.vown.lt gv rfl).1
  refine ⟨H.hb, (K.block h H.cells.lt fun e => H.hv (by rw [e]; rfl)).trans H.cells, ?_, owns_of_block H.pown fun i hi => K.block i (H.pown.lt i hi).2 fun e => H.pvn i hi (by rw [e]; rfl),
    fun i hi => (H.rows i hi).keep K fun e => H.vne i hi (by rw [e]; rfl), H.gb, H.inj, H.vne⟩
  have := hO.owns
  rw [put_length] at this ⊢
  obtain ⟨a, b⟩ := this
  refine ⟨a, ?_⟩
  rcases b with ⟨e, _⟩ | ⟨g, cap, cur, e, _, r⟩
  · cases e
  · cases e; exact .inr ⟨gv, cv, cur, rfl, hgv, r⟩

/-- v in the place of its copy in run i -/
theorem Hist.putRun {w' : World} (H : Hist base w h vv pv vs n G C R t0 t1) (v : V) (i : Nat) (hi : i < n) (hO : Own w' (G i) (C i) (put (R i) v)) (K : Keep (· = G i) w w') : Hist base w' h vv pv vs n G C (upd R i (put (R i) v)) t0 t1 := by
  have hne : ∀ j, j < n → j ≠ i → G j ≠ G i := fun j hj hji => by
    rcases Nat.lt_or_gt_of_ne hji with h1 | h1
    · exact H.inj j i h1 hi
    · exact Ne.symm (H.inj i j h1 hj)
  refine ⟨H.hb, (K.block h H.cells.lt fun e => H.hg i hi e.symm).trans H.cells, owns_of_block H.vown fun k hk => K.block k (H.vown.lt k hk).2 fun e => H.vne i hi (e ▸ hk), ?_, ?_, H.gb, H.inj, H.vne⟩
  · have e : ents G C (upd R i (put (R i) v)) n = ents G C R n := ents_congr fun j hj => by
      by_cases e : j = i
      · subst e; simp [ent, upd, put_length]
      · simp [ent, upd, e]
    rw [e]
    exact owns_of_block H.pown fun k hk => K.block k (H.pown.lt k hk).2 fun e => H.pg i hi (e ▸ hk)
  · intro j hj
    by_cases e : j = i
    · subst e; rw [upd_same]; exact hO
    · rw [upd_ne _ _ _ _ e]; exact (H.rows j hj).keep K (hne j hj e)

end

end Go.Proofs.Ybulkdink
