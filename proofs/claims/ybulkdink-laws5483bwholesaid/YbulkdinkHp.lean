import Derived.Test.YbulkdinkHs
import Derived.Deep.RegionHeld3
namespace Go.Proofs.Ybulkdink
open Go.ChangeShapes Go.WideShapes Go.ChangeAt Go.RowKit
set_option linter.unusedVariables false

/-- a history whose last run (number m) is lv, the votes xs: it is about to take a vote more -/
structure Pre (base : Nat) (w : World) (h : Nat) (vv pv : Value) (vs : List V) (m : Nat) (G C : Nat → Nat) (R : Nat → List V) (t0 t1 : Int) (lv : Value) (xs : List V) : Prop where
  hb : base ≤ h
  cells : HCells w h vv pv t0 t1
  vown : w.ownsRow base 29 6 vv vs.length (cellsOf vs)
  pown : w.ownsRow base 27 1 pv (m + 1) (ents G C R m ++ [lv])
  rows : ∀ i, i < m → Own w (G i) (C i) (R i)
  gb : ∀ i, i < m → base ≤ G i
  inj : ∀ i j, i < j → j < m → G i ≠ G j
  vne : ∀ i, i < m → vv.ownBlock ≠ some (G i)
  lown : w.ownsRow base 29 6 lv xs.length (cellsOf xs)
  lne : ∀ i, i < m → lv.ownBlock ≠ some (G i)
  lvv : ∀ k, lv.ownBlock = some k → vv.ownBlock ≠ some k

theorem owns_based {w : World} {g cap base : Nat} {xs : List V} (h : Own w g cap xs) (hb : base ≤ g) : w.ownsRow base 29 6 (.slice (some ⟨g, 0, none⟩) xs.length cap) xs.length (cellsOf xs) := by
  obtain ⟨a, b⟩ := h.owns
  refine ⟨a, ?_⟩
  rcases b with ⟨e, _⟩ | ⟨g', cap', cur, e, _, r⟩
  · cases e
  · cases e; exact .inr ⟨g, cap, cur, rfl, hb, r⟩

section
variable {base : Nat} {w : World} {h : Nat} {vv pv : Value} {vs : List V} {n m : Nat} {G C : Nat → Nat} {R : Nat → List V} {t0 t1 : Int} {lv : Value} {xs : List V}

theorem Hist.pre (H : Hist base w h vv pv vs (m + 1) G C R t0 t1) : Pre base w h vv pv vs m G C R t0 t1 (ent G C R m) (R m) where
  hb := H.hb
  cells := H.cells
  vown := H.vown
  pown := by rw [← ents_succ]; exact H.pown
  rows := fun i hi => H.rows i (by omega)
  gb := fun i hi => H.gb i (by omega)
  inj := fun i j h1 h2 => H.inj i j h1 (by omega)
  vne := fun i hi => H.vne i (by omega)
  lown := owns_based (H.rows m (by omega)) (H.gb m (by omega))
  lne := fun i hi e => H.inj i m hi (by omega) (Option.some.inj e).symm
  lvv := fun k e e2 => H.vne m (by omega) (by rw [e2]; exact e.symm)

/-- a run more, still nil -/
theorem Hist.opened {wA w1 : World} {pv' : Value} (H : Hist base w h vv pv vs n G C R t0 t1) (KA : Keep (fun _ => False) w wA) (hg : wA.grownBy w1 pv.ownBlock) (hp : w1.ownsRow base 27 1 pv' (n + 1) (ents G C R n ++ [.slice none 0 0])) :
    Pre base (w1.setCell ⟨h, 2, none⟩ pv') h vv pv' vs n G C R t0 t1 (.slice none 0 0) [] := by
  have K1 : Keep (fun k => pv.ownBlock = some k) w w1 := (KA.weak (fun _ _ e => e.elim)).grown hg (fun k e => e)
  have Hc : HCells w1 h vv pv t0 t1 := (K1.block h H.cells.lt H.hp).trans H.cells
  have K2 : Keep (fun k => pv.ownBlock = some k ∨ k = h) w (w1.setCell ⟨h, 2, none⟩ pv') := (K1.weak fun k _ e => .inl e).setCell (.inr rfl) _
  refine ⟨H.hb, Hc.setPend pv', owns_of_block H.vown fun k hk => K2.block k (H.vown.lt k hk).2 ?_, owns_of_block hp fun k hk => ?_, fun i hi => (H.rows i hi).keep K2 ?_, H.gb, H.inj, H.vne, World.ownsRow_nil _ _ _ _, by simp [Value.ownBlock], by simp [Value.ownBlock]⟩
  · rintro (e | e)
    · exact H.pvn k e hk
    · exact H.hv (e ▸ hk)
  · refine Below.heap_setCell _ _ _ _ fun e => ?_
    have e' : k = h := e
    subst e'
    obtain ⟨c, hb⟩ := owns_type hp hk
    unfold HCells at Hc
    rw [Hc] at hb; simp at hb
  · rintro (e | e)
    · exact H.pg i hi e
    · exact H.hg i hi e

/-- the vote on the last run's end -/
theorem Pre.taken {wA w1 : World} {v : V} {g cap gp cp Hs : Nat} (P : Pre base w h vv (.slice (some ⟨gp, 0, none⟩) (m + 1) cp) vs m G C R t0 t1 lv xs) (KA : Keep (fun _ => False) w wA) (hg : wA.grownBy w1 lv.ownBlock) (hHs : w.heap.size ≤ Hs)
    (ho : w1.ownsRow base 29 6 (.slice (some ⟨g, 0, none⟩) (xs.length + 1) cap) (xs.length + 1) (cellsOf xs ++ v.list)) (hat : lv.ownBlock = some g ∨ g = Hs) :
    Hist base (w1.setCell ⟨gp, m, none⟩ (.slice (some ⟨g, 0, none⟩) (xs.length + 1) cap)) h vv (.slice (some ⟨gp, 0, none⟩) (m + 1) cp) vs (m + 1) (upd G m g) (upd C m cap) (upd R m (xs ++ [v])) t0 t1 ∧
    Keep (fun k => lv.ownBlock = some k ∨ k = gp) w (w1.setCell ⟨gp, m, none⟩ (.slice (some ⟨g, 0, none⟩) (xs.length + 1) cap)) := by
  have K1 : Keep (fun k => lv.ownBlock = some k) w w1 := (KA.weak (fun _ _ e => e.elim)).grown hg (fun k e => e)
  have K2 : Keep (fun k => lv.ownBlock = some k ∨ k = gp) w (w1.setCell ⟨gp, m, none⟩ (.slice (some ⟨g, 0, none⟩) (xs.length + 1) cap)) := (K1.weak fun k _ e => .inl e).setCell (.inr rfl) _
  have tyl : ∀ k, lv.ownBlock = some k → ∃ c, w.heap[k]? = some (.cells c 29 (0, 0)) := fun k e => owns_type P.lown e
  obtain ⟨cgp, hgp⟩ := owns_type P.pown (k := gp) rfl
  have hgpl : lv.ownBlock ≠ some gp := fun e => by obtain ⟨c, hb⟩ := tyl gp e; rw [hgp] at hb; simp at hb
  have hhl : lv.ownBlock ≠ some h := fun e => by obtain ⟨c, hb⟩ := tyl h e; have := P.cells; unfold HCells at this; rw [this] at hb; simp at hb
  have hhgp : h ≠ gp := fun e => by have := P.cells; unfold HCells at this; rw [e, hgp] at this; simp at this
  have hggp : g ≠ gp := fun e => by
    have h1 := (owns_type ho (k := g) rfl)
    obtain ⟨c, hb⟩ := h1
    rw [e, K1.block gp (Array.getElem?_eq_some_iff.1 hgp).1 hgpl, hgp] at hb; simp at hb
  have hgne : ∀ i, i < m → G i ≠ g := fun i hi e => by
    rcases hat with h1 | h1
    · exact P.lne i hi (by rw [h1, e])
    · have := (P.rows i hi).lt; omega
  have hvg : vv.ownBlock ≠ some g := fun e => by
    rcases hat with h1 | h1
    · exact P.lvv g h1 e
    · have := (P.vown.lt g e).2; omega
  have e6 : cellsOf xs ++ v.list = cellsOf (xs ++ [v]) := by rw [cellsOf_append]; simp [cellsOf]
  have hO : Own w1 g cap (xs ++ [v]) := by
    rw [e6] at ho
    refine (own_of_owns (n := xs.length + 1) ⟨ho.1, ?_⟩).2
    rcases ho.2 with ⟨e, _⟩ | ⟨g', cap', cur, e, _, r⟩
    · cases e
    · cases e; exact .inr ⟨g, cap, cur, rfl, Nat.zero_le _, r⟩
  have hbg : base ≤ g := (ho.lt g rfl).1
  refine ⟨⟨P.hb, (K2.block h P.cells.lt fun e => by rcases e with e | e; exact hhl e; exact hhgp e).trans P.cells, ?_, ?_, ?_, ?_, ?_, ?_⟩, K2⟩
  · refine owns_of_block P.vown fun k hk => K2.block k (P.vown.lt k hk).2 ?_
    rintro (e | e)
    · exact P.lvv k e hk
    · subst e
      obtain ⟨c, hb⟩ := owns_type P.vown hk
      rw [hgp] at hb; simp at hb
  · have hp1 : w1.ownsRow base 27 1 (.slice (some ⟨gp, 0, none⟩) (m + 1) cp) (m + 1) (ents G C R m ++ [lv]) := owns_of_block P.pown fun k hk => K1.block k (P.pown.lt k hk).2 fun e => by
      cases hk; exact hgpl e
    have hp2 := owns_set1 hp1 m (by omega) (.slice (some ⟨g, 0, none⟩) (xs.length + 1) cap)
    have e : (ents G C R m ++ [lv]).set m (.slice (some ⟨g, 0, none⟩) (xs.length + 1) cap) = ents (upd G m g) (upd C m cap) (upd R m (xs ++ [v])) (m + 1) := by
      rw [List.set_append_right _ _ (by rw [ents_length]; omega), ents_length, Nat.sub_self, List.set_cons_zero, ents_succ]
      congr 1
      · exact ents_congr fun i hi => by simp [ent, upd, show i ≠ m by omega]
      · simp [ent, upd]
    rw [e] at hp2
    exact hp2
  · intro i hi
    by_cases e : i = m
    · subst e
      rw [upd_same, upd_same, upd_same]
      exact hO.of_block (Below.heap_setCell _ _ _ _ (by exact hggp))
    · rw [upd_ne _ _ _ _ e, upd_ne _ _ _ _ e, upd_ne _ _ _ _ e]
      refine (P.rows i (by omega)).keep K2 ?_
      rintro (e2 | e2)
      · exact P.lne i (by omega) e2
      · obtain ⟨c, hb, _⟩ := P.rows i (by omega)
        rw [e2, hgp] at hb; simp at hb
  · intro i hi
    by_cases e : i = m
    · subst e; rw [upd_same]; exact hbg
    · rw [upd_ne _ _ _ _ e]; exact P.gb i (by omega)
  · intro i j hij hj
    rw [upd_ne _ _ i _ (by omega)]
    by_cases e : j = m
    · subst e; rw [upd_same]; exact hgne i hij
    · rw [upd_ne _ _ _ _ e]; exact P.inj i j hij (by omega)
  · intro i hi
    by_cases e : i = m
    · subst e; rw [upd_same]; exact hvg
    · rw [upd_ne _ _ _ _ e]; exact P.vne i (by omega)

/-- the last two runs made one -/
theorem Hist.merged {w1 : World} {gp cp g N : Nat} {M : List V} (H : Hist base w h vv (.slice (some ⟨gp, 0, none⟩) (m + 2) cp) vs (m + 2) G C R t0 t1) (K1 : Keep (fun _ => False) w w1) (hg : w.heap.size ≤ g) (hO : Own w1 g N M) (hb : base ≤ w.heap.size) :
    Hist base ((w1.setCell ⟨gp, m, none⟩ (.slice (some ⟨g, 0, none⟩) M.length N)).setCell ⟨h, 2, none⟩ (.slice (some ⟨gp, 0, none⟩) (m + 1) cp)) h vv (.slice (some ⟨gp, 0, none⟩) (m + 1) cp) vs (m + 1) (upd G m g) (upd C m N) (upd R m M) t0 t1 ∧
    Keep (fun k => k = gp ∨ k = h) w ((w1.setCell ⟨gp, m, none⟩ (.slice (some ⟨g, 0, none⟩) M.length N)).setCell ⟨h, 2, none⟩ (.slice (some ⟨gp, 0, none⟩) (m + 1) cp)) := by
  have H1 : Hist base w1 h vv (.slice (some ⟨gp, 0, none⟩) (m + 2) cp) vs (m + 2) G C R t0 t1 := H.keep K1 (fun _ _ e => e)
  have hhgp : h ≠ gp := fun e => H.hp (by rw [e]; rfl)
  have hgh : g ≠ h := fun e => by have := H.cells.lt; omega
  have hggp : g ≠ gp := fun e => by have := (H.pown.lt gp rfl).2; omega
  have K2 : Keep (fun k => k = gp ∨ k = h) w ((w1.setCell ⟨gp, m, none⟩ (.slice (some ⟨g, 0, none⟩) M.length N)).setCell ⟨h, 2, none⟩ (.slice (some ⟨gp, 0, none⟩) (m + 1) cp)) := ((K1.weak (fun _ _ e => e.elim)).setCell (.inl rfl) _).setCell (.inr rfl) _
  have Hc : HCells (w1.setCell ⟨gp, m, none⟩ (.slice (some ⟨g, 0, none⟩) M.length N)) h vv (.slice (some ⟨gp, 0, none⟩) (m + 2) cp) t0 t1 := (Below.heap_setCell _ _ _ _ (by exact hhgp)).trans H1.cells
  refine ⟨⟨H.hb, Hc.setPend _, ?_, ?_, ?_, ?_, ?_, ?_⟩, K2⟩
  · refine owns_of_block H.vown fun k hk => K2.block k (H.vown.lt k hk).2 ?_
    rintro (e | e)
    · exact H.pvn k (by rw [e]; rfl) hk
    · exact H.hv (e ▸ hk)
  · have hp2 := owns_set1 H1.pown m (by omega) (.slice (some ⟨g, 0, none⟩) M.length N)
    rw [ents_set _ _ _ _ _ _ _ _ (by omega)] at hp2
    have hp3 : ((w1.setCell ⟨gp, m, none⟩ (.slice (some ⟨g, 0, none⟩) M.length N)).setCell ⟨h, 2, none⟩ (.slice (some ⟨gp, 0, none⟩) (m + 1) cp)).ownsRow base 27 1 (.slice (some ⟨gp, 0, none⟩) (m + 2) cp) (m + 2) (ents (upd G m g) (upd C m N) (upd R m M) (m + 2)) :=
      owns_of_block hp2 fun k hk => by cases hk; exact Below.heap_setCell _ _ _ _ (by exact Ne.symm hhgp)
    rcases hp3.2 with ⟨e, _⟩ | ⟨g', cap', cur, e, hb', hbl, hl, hm, hs, ht⟩
    · cases e
    · cases e
      refine ⟨by rw [ents_length]; omega, .inr ⟨gp, cp, cur, rfl, hb', hbl, by omega, hm, hs, ?_⟩⟩
      have := congrArg (List.take (m + 1)) ht
      rw [List.take_take, ents_take _ _ _ _ _ (by omega)] at this
      rw [← this]
      congr 1
      omega
  · intro i hi
    by_cases e : i = m
    · subst e
      rw [upd_same, upd_same, upd_same]
      exact (hO.of_block (Below.heap_setCell _ _ _ _ (by exact hggp))).of_block (Below.heap_setCell _ _ _ _ (by exact hgh))
    · rw [upd_ne _ _ _ _ e, upd_ne _ _ _ _ e, upd_ne _ _ _ _ e]
      refine (H.rows i (by omega)).keep K2 ?_
      rintro (e2 | e2)
      · exact H.pg i (by omega) (by rw [e2]; rfl)
      · exact H.hg i (by omega) e2
  · intro i hi
    by_cases e : i = m
    · subst e; rw [upd_same]; omega
    · rw [upd_ne _ _ _ _ e]; exact H.gb i (by omega)
  · intro i j hij hj
    rw [upd_ne _ _ i _ (by omega)]
    by_cases e : j = m
    · subst e; rw [upd_same]; intro e2; have := (H.rows i (by omega)).lt; omega
    · rw [upd_ne _ _ _ _ e]; exact H.inj i j hij (by omega)
  · intro i hi
    by_cases e : i = m
    · subst e; rw [upd_same]; intro e2; have := (H.vown.lt g e2).2; omega
    · rw [upd_ne _ _ _ _ e]; exact H.vne i (by omega)

end
end Go.Proofs.Ybulkdink
