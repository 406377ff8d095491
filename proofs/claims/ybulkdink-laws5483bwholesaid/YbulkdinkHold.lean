import Derived.Test.YbulkdinkWays
namespace Go.Proofs.Ybulkdink
open Go.ChangeShapes Go.WideShapes Go.ChangeAt Go.RowKit
set_option linter.unusedVariables false
set_option linter.unusedSimpArgs false

abbrev last (xs : List V) : V := nth xs (xs.length - 1)
/-- v starts a run of its own -/
def fresh (n : Nat) (R : Nat → List V) (v : V) : Bool := decide (n = 0) || decide (0 < cmpV (last (R (n - 1))) v)
def n0 (n : Nat) (R : Nat → List V) (v : V) : Nat := if fresh n R v then n + 1 else n
def l0 (n : Nat) (R : Nat → List V) (v : V) : Nat := if fresh n R v then 1 else (R (n - 1)).length + 1
def len (R : Nat → List V) (i : Nat) : Nat := (R i).length

/-- where no copy is held -/
def NoCopy (vs : List V) (n : Nat) (R : Nat → List V) (v : V) : Prop := has vs v = false ∧ ∀ j, j < n → has (R j) v = false

def HoldPost (base : Nat) (w : World) (h : Nat) (vv pv : Value) (vs : List V) (n : Nat) (G C : Nat → Nat) (R : Nat → List V) (t0 t1 : Int) (v : V) (e : Ending) (w' : World) : Prop :=
  Keep (foot h vv pv n G) w w' ∧
  ((abv vs.length n t0 t1 v = false ∧ has vs v = true ∧ e = .returned (.bool false) ∧ Hist base w' h vv pv (put vs v) n G C R t0 t1)
  ∨ (abv vs.length n t0 t1 v = false ∧ has vs v = false ∧ e = .returned (.bool false) ∧ ∃ i, i < n ∧ has (R i) v = true ∧ (∀ j, j < i → has (R j) v = false) ∧ Hist base w' h vv pv vs n G C (upd R i (put (R i) v)) t0 t1)
  ∨ ((abv vs.length n t0 t1 v = false → NoCopy vs n R v) ∧ e = .returned (.bool true) ∧ ∃ pv' m G' C' T, Hist base w' h vv pv' vs (m + 1) G' C' (upd R m T) (if abv vs.length n t0 t1 v then v.s else t0) (if abv vs.length n t0 t1 v then v.t else t1)
      ∧ m ≤ n ∧ Srt T ∧ T.Perm (v :: cat R m n) ∧ m + 1 = stop (len R) (n0 n R v) (l0 n R v)))

/-- behind the search -/
structure Mid1 (base : Nat) (w wx : World) (h : Nat) (vv pv : Value) (vs : List V) (n : Nat) (G C : Nat → Nat) (R : Nat → List V) (t0 t1 : Int) (v : V) (B : Nat) : Prop where
  hist : Hist base wx h vv pv vs n G C R (if abv vs.length n t0 t1 v then v.s else t0) (if abv vs.length n t0 t1 v then v.t else t1)
  keep : Keep (foot h vv pv n G) w wx
  none : abv vs.length n t0 t1 v = false → NoCopy vs n R v
  box : Boxed wx B v
  bl : B < wx.heap.size

theorem HCells.frozen {w : World} {h : Nat} {vv pv : Value} {t0 t1 : Int} (H : HCells w h vv pv t0 t1) (i : Nat) : w.frozen? ⟨h, i, none⟩ = false := by
  unfold HCells at H
  simp [World.frozen?, H]

theorem Hist.pcell {base : Nat} {w : World} {h : Nat} {vv : Value} {vs : List V} {n gp cp : Nat} {G C : Nat → Nat} {R : Nat → List V} {t0 t1 : Int} (H : Hist base w h vv (.slice (some ⟨gp, 0, none⟩) n cp) vs n G C R t0 t1) (i : Nat) (hi : i < n) :
    ∀ k os, (ext w k os).cell? ⟨gp, i, none⟩ = some (ent G C R i) := fun k os => by
  have hl := (H.pown.lt gp rfl).2
  rw [ext_cell (by exact hl)]
  have := H.pown.cells (g := gp) rfl i _ (ents_at G C R n i hi)
  rwa [Addr.add_lit, Nat.zero_add] at this

/-- at the search among the runs -/
structure Srch (base : Nat) (w wr : World) (h : Nat) (vv pv : Value) (vs : List V) (n : Nat) (G C : Nat → Nat) (R : Nat → List V) (t0 t1 : Int) (v : V) (B i : Nat) : Prop where
  hi : i ≤ n
  hist : Hist base wr h vv pv vs n G C R t0 t1
  keep : Keep (foot h vv pv n G) w wr
  none : ∀ j, j < i → has (R j) v = false
  box : Boxed wr B v
  bl : B < wr.heap.size

/-- ahead of the vote's being taken -/
structure Mid2 (base : Nat) (w wx : World) (h : Nat) (vv pv : Value) (vs : List V) (n : Nat) (G C : Nat → Nat) (R : Nat → List V) (T0 T1 : Int) (v : V) (B m gp cp : Nat) (lv : Value) (xs : List V) : Prop where
  pre : Pre base wx h vv (.slice (some ⟨gp, 0, none⟩) (m + 1) cp) vs m G C R T0 T1 lv xs
  keep : Keep (foot h vv pv n G) w wx
  gpok : pv.ownBlock = some gp ∨ w.heap.size ≤ gp
  lvok : ∀ k, lv.ownBlock = some k → foot h vv pv n G k
  how : (fresh n R v = true ∧ m = n ∧ xs = []) ∨ (fresh n R v = false ∧ n = m + 1 ∧ xs = R m)
  box : Boxed wx B v
  bl : B < wx.heap.size

theorem rlay (w : World) (x : Value) : ∃ W, w.alloc (Obj.cells #[x] 27) = W ∧ Ext w W ∧ W.heap[w.heap.size]? = some (.cells #[x] 27 (0, 0)) ∧ (∀ k, k < w.heap.size → W.heap[k]? = w.heap[k]?) ∧ W.heap.size = w.heap.size + 1 :=
  ⟨_, rfl, (Ext.refl w).alloc _, Deep.blk_alloc_new _ _, fun k hk => Below.heap_alloc _ _ _ hk, by simp⟩

theorem cat_split (R : Nat → List V) (m n : Nat) (h : m ≤ n) : cat R 0 n = cat R 0 m ++ cat R m n := by
  induction n with
  | zero =>
    have e : m = 0 := by omega
    subst e
    simp [cat]
  | succ n ih =>
    by_cases e : m = n + 1
    · subst e; rw [cat_nil R (n + 1) (n + 1) (by omega)]; simp
    · rw [cat_back R 0 n (by omega), cat_back R m n (by omega), ih (by omega), List.append_assoc]

theorem stop_yes (L : Nat → Nat) (m tl : Nat) (h : L m < 2 * tl) : stop L (m + 2) tl = stop L (m + 1) (tl + L m) := by
  show (if 2 * tl > L m then _ else _) = _
  rw [if_pos h]
theorem stop_no (L : Nat → Nat) (m tl : Nat) (h : ¬ L m < 2 * tl) : stop L (m + 2) tl = m + 2 := by
  show (if 2 * tl > L m then _ else _) = _
  rw [if_neg h]

/-- the runs are merged back: the last of them, number m, is T -/
structure Lp (base : Nat) (w wr : World) (h : Nat) (vv pv : Value) (vs : List V) (n : Nat) (G : Nat → Nat) (R : Nat → List V) (T0 T1 : Int) (v : V) (m gp cp : Nat) (T : List V) (G' C' : Nat → Nat) : Prop where
  hist : Hist base wr h vv (.slice (some ⟨gp, 0, none⟩) (m + 1) cp) vs (m + 1) G' C' (upd R m T) T0 T1
  keep : Keep (foot h vv pv n G) w wr
  mn : m ≤ n
  srt : Srt T
  perm : T.Perm (v :: cat R m n)
  st : stop (len R) (m + 1) T.length = stop (len R) (n0 n R v) (l0 n R v)

theorem Hist.congr {base : Nat} {w : World} {h : Nat} {vv pv : Value} {vs : List V} {n : Nat} {G C : Nat → Nat} {R R' : Nat → List V} {t0 t1 : Int} (H : Hist base w h vv pv vs n G C R t0 t1) (e : ∀ i, i < n → R i = R' i) : Hist base w h vv pv vs n G C R' t0 t1 :=
  ⟨H.hb, H.cells, H.vown, by rw [← ents_congr (G := G) (C := C) (R := R) (fun i hi => by simp only [ent, e i hi])]; exact H.pown, fun i hi => by rw [← e i hi]; exact H.rows i hi, H.gb, H.inj, H.vne⟩

theorem srt_last {xs : List V} (h : Srt xs) (v : V) (hl : 0 < xs.length → cmpV (last xs) v < 0) : Srt (xs ++ [v]) := by
  refine srt_snoc h fun x hx => ?_
  obtain ⟨i, hi, rfl⟩ := List.getElem_of_mem hx
  have e : xs[i] = nth xs i := by simp [nth, List.getD_eq_getElem?_getD, hi]
  rw [e]
  by_cases e2 : i = xs.length - 1
  · rw [e2]; exact hl (by omega)
  · exact cmpV_trans (h.at i (xs.length - 1) (by omega) (by omega)) (Int.le_of_lt (hl (by omega)))

set_option maxRecDepth 100000 in
set_option maxHeartbeats 8000000 in
theorem hold_any (base : Nat) (w : World) (h : Nat) (vv pv : Value) (vs : List V) (n : Nat) (G C : Nat → Nat) (R : Nat → List V) (t0 t1 : Int) (v : V)
    (H : Hist base w h vv pv vs n G C R t0 t1) (g : Good w vs n R) (hv : v.Ok) (hs : SigIn w v) (hbase : base ≤ w.heap.size)
    (hab : abv vs.length n t0 t1 v = true → ∀ i, i < n → ∀ u ∈ R i, cmpV u v ≠ 0) :
    Calls Yba.prog 7 #[.pointer (some ⟨h, 0, none⟩), v.val] w (HoldPost base w h vv pv vs n G C R t0 t1 v) := by
  have HH : Hid (Hist base w h vv pv vs n G C R t0 t1) := H
  have gH : Hid (Good w vs n R) := g
  have sH : Hid (SigIn w v) := hs
  have abH : Hid (abv vs.length n t0 t1 v = true → ∀ i, i < n → ∀ u ∈ R i, cmpV u v ≠ 0) := hab
  clear H g hs hab
  have hm1 := m_heights
  have hPl := Pl.some
  have hnb : n ≤ 100000 := Nat.le_trans (cat_len_ge gH.out.rne) gH.out.rlen
  obtain ⟨av, cv, hvv⟩ := owns_form HH.out.vown
  obtain ⟨ap, cp, hpv⟩ := owns_form HH.out.pown
  have hvvH : Hid (vv = .slice av vs.length cv) := hvv
  have hpvH : Hid (pv = .slice ap n cp) := hpv
  clear hvv hpv
  obtain ⟨POST, hPOST⟩ : ∃ P, HoldPost base w h vv pv vs n G C R t0 t1 v = P := ⟨_, rfl⟩
  have postH : Hid (∀ e w', HoldPost base w h vv pv vs n G C R t0 t1 v e w' → POST e w') := fun e w' hh => hPOST ▸ hh
  rw [hPOST]
  clear hPOST
  go_enter Yba.func7, Yba.ntmps7
  go_upto_region 1 with fail
  obtain ⟨W, hW, hE, bB, hk, hsz⟩ := vbox w v
  rw [hW]
  obtain ⟨B, hB⟩ : ∃ B, w.heap.size = B := ⟨_, rfl⟩
  have hBH : Hid (w.heap.size = B) := hB
  rw [hB] at bB ⊢
  have BxH : Hid (Boxed W B v) := bB
  have BlH : Hid (B < W.heap.size) := show B < W.heap.size by omega
  have EH : Hid (Ext w W) := hE
  have HW : Hid (Hist base W h vv pv vs n G C R t0 t1) := HH.out.keep (hE.keep (fun _ => False)) (fun _ _ e => e)
  have gW : Hid (Good W vs n R) := gH.out.world fun u hu => hu.extE hE
  have sW : Hid (SigIn W v) := sH.out.extE hE
  have footB : Hid (∀ k, foot h vv pv n G k → k ≠ B) := fun k hk e => by have := HH.out.lt k hk; omega
  clear hW hk hsz hB hE bB
  obtain ⟨d0, d1, d2, d3, d4, d5⟩ := BxH.out
  obtain ⟨W0, k0, o0, hW0⟩ : ∃ W0 k0 o0, W0 = ext W k0 o0 ∧ W0 = W := ⟨W, 0, [], ext_zero W, rfl⟩
  rw [← hW0.2]
  obtain ⟨rfl, hW02⟩ := hW0
  clear hW02
  have F : ∀ k os, Calls Yba.prog 12 #[.pointer (some ⟨h, 0, none⟩), v.val] (ext W k os) fun e w' => e = .returned (.bool (abv vs.length n t0 t1 v)) ∧ ∃ k' os', w' = ext W k' os' := fun k os => by
    have hc := HW.out.cells
    rw [hvvH.out, hpvH.out] at hc
    refine (above_any h av ap vs.length cv n cp t0 t1 v _ ((ext_block hc.lt).trans hc)).mono fun e w' ⟨he, hE⟩ => ⟨he, Ext.trans ⟨k, os, rfl⟩ hE⟩
  go_upto_if 12 with (go_at_call 12; refine (F _ _).mono ?_; rintro e w1 ⟨rfl, k1, o1, rfl⟩)
  clear F
  go_cut [] from 10 (fun wx => Mid1 base w wx h vv pv vs n G C R t0 t1 v B)
  case first =>
    cases hA : abv vs.length n t0 t1 v with
    | true =>
      have hAH : Hid (abv vs.length n t0 t1 v = true) := hA
      have F1 := fun k os => from_ext (fun w => heights v w) W k os
      have hfz : ∀ k os i, (ext W k os).frozen? ⟨h, i, none⟩ = false := fun k os i => HCells.frozen (h := h) ((ext_block HW.out.cells.lt).trans HW.out.cells) i
      obtain ⟨c0, c1, c2, c3, c4, c5, c6, c7⟩ := HW.out.cells.at
      clear hA c0 c1 c2 c5 c6 c7
      go_wp2_with (go_at_call 39; refine (F1 _ _).mono ?_; rintro e w2 ⟨rfl, k2, o2, rfl⟩)
      go_meet
      case rel =>
        have HE : Hist base (ext W k2 o2) h vv pv vs n G C R t0 t1 := HW.out.keep (Ext.keep ⟨_, _, rfl⟩ (fun _ => False)) (fun _ _ e => e)
        obtain ⟨HT, KT⟩ := HE.setTop v.s v.t
        have KE : Keep (fun _ => False) W (ext W k2 o2) := Ext.keep ⟨_, _, rfl⟩ _
        have Kf : Keep (foot h vv pv n G) w (ext W k2 o2) := (EH.out.keep _).trans (Ext.keep ⟨_, _, rfl⟩ _)
        have hA := hAH.out
        refine ⟨by rw [if_pos hA, if_pos hA]; exact HT, Kf.trans (KT.weak fun k _ e => .inl e), fun e => (by rw [hA] at e; cases e), ?_, ?_⟩
        · exact (BxH.out.keep BlH.out KE id).keep (Nat.lt_of_lt_of_le BlH.out KE.size) KT fun e => footB.out h (.inl rfl) e.symm
        · exact Nat.lt_of_lt_of_le BlH.out (Nat.le_trans KE.size KT.size)
    | false =>
      have hAH : Hid (abv vs.length n t0 t1 v = false) := hA
      clear hA
      obtain ⟨c0, c1, c2, c3, c4, c5, c6, c7⟩ := HW.out.cells.at
      clear c0 c3 c4 c5 c6 c7
      have KX : Keep (fun _ => False) W (ext W k1 o1).drew := (Ext.keep ⟨_, _, rfl⟩ _).drew
      have HX : Hid (Hist base (ext W k1 o1).drew h vv pv vs n G C R t0 t1) := HW.out.keep KX (fun _ _ e => e)
      have gX : Hid (Good (ext W k1 o1).drew vs n R) := gW.out.world fun u hu => hu.keep KX (fun _ _ _ e => e.elim)
      have sX : Hid (SigIn (ext W k1 o1).drew v) := sW.out.keep KX (fun _ _ _ e => e.elim)
      have bX : Hid (Boxed (ext W k1 o1).drew B v) := BxH.out.keep BlH.out KX id
      have KXH : Hid (Keep (fun _ => False) W (ext W k1 o1).drew) := KX
      clear KX
      go_upto_region 4 with fail
      refine still_tail 5 mixed (by kernel_rfl) ?_
      simp only [List.take_succ_cons, List.take_zero, List.drop_succ_cons, List.drop_zero]
      repeat still_step
      (try refine wpStill_nil ?_)
      cases hV : has vs v with
      | true =>
        have F := stand_votes HX.out gX.out hv sX.out
        rw [hV] at F
        have hVH : Hid (has vs v = true) := hV
        clear hV
        go_wp2_with (go_at_call 13; refine F.mono ?_; rintro e w2 ⟨rfl, hH2, hK2⟩)
        refine postH.out _ _ ⟨?_, .inl ⟨hAH.out, hVH.out, rfl, hH2⟩⟩
        have K0 : Keep (foot h vv pv n G) w (ext W k1 o1).drew := (EH.out.keep _).trans (KXH.out.weak (fun _ _ e => e.elim))
        exact K0.into hK2 fun i _ e => .inr (.inl e)
      | false =>
        have F := stand_votes HX.out gX.out hv sX.out
        rw [hV, put_id hV] at F
        have hVH : Hid (has vs v = false) := hV
        clear hV
        have K0 : Hid (Keep (foot h vv pv n G) w (ext W k1 o1).drew) := (EH.out.keep _).trans (KXH.out.weak (fun _ _ e => e.elim))
        go_upto_region 6 with (go_at_call 13; refine F.mono ?_; rintro e w2 ⟨rfl, hH2, hK2⟩)
        have K2 : Keep (foot h vv pv n G) w w2 := K0.out.into hK2 fun i _ e => .inr (.inl e)
        have hBl : B < (ext W k1 o1).drew.heap.size := Nat.lt_of_lt_of_le BlH.out KXH.out.size
        have b2 : Boxed w2 B v := bX.out.keep hBl hK2 (fun e => footB.out B (.inr (.inl e)) rfl)
        have S0 : Hid (Srch base w w2 h vv pv vs n G C R t0 t1 v B 0) := ⟨Nat.zero_le _, hH2, K2, fun j hj => absurd hj (Nat.not_lt_zero _), b2, Nat.lt_of_lt_of_le hBl hK2.size⟩
        have hc2 : w2.cell? ⟨h, 2, none⟩ = some pv := by have := hH2.cells.at.2.2.1 0 []; rwa [← ext_zero] at this
        rw [hpvH.out] at hc2
        clear hH2 hK2 K2 b2 F c1 c2
        go_wp2
        go_loopg [36, 8] n (fun d s36 s8 wr => ∃ i : Nat, d = n - i ∧ s36 = .int .i64 i ∧ Srch base w wr h vv pv vs n G C R t0 t1 v B i)
        case atStart => exact ⟨0, rfl, rfl, S0.out⟩
        case round =>
          obtain ⟨i, hd, rfl, hS⟩ := hrel
          have SH : Hid (Srch base w wr h vv pv vs n G C R t0 t1 v B i) := hS
          have hin := hS.hi
          clear hS
          by_cases hi : i < n
          · have hi' : (i : Int) < (n : Int) := by omega
            obtain ⟨gp, cp', hpf, _, _⟩ := SH.out.hist.pown.form (by omega)
            have hap : ap = some ⟨gp, 0, none⟩ := by have := hpvH.out; rw [hpf] at this; cases this; rfl
            have hcp : cp' = cp := by have := hpvH.out; rw [hpf] at this; cases this; rfl
            subst hap
            subst hcp
            have pc := fun Hx => Hist.pcell (base := base) (w := wr) (h := h) (vv := vv) (vs := vs) (n := n) (gp := gp) (cp := cp') (G := G) (C := C) (R := R) (t0 := t0) (t1 := t1) Hx i hi 0 []
            have pc' := pc (by have := SH.out.hist; rw [hpf] at this; exact this)
            rw [← ext_zero] at pc'
            clear pc
            obtain ⟨d0, d1, d2, d3, d4, d5⟩ := SH.out.box.here
            have gR : Good wr vs n R := gH.out.world fun u hu => hu.keep SH.out.keep HH.out.notSig
            have sR : SigIn wr v := sH.out.keep SH.out.keep HH.out.notSig
            have F := stand_run SH.out.hist gR hv sR i hi
            have FH : Hid (_ ∧ True) := ⟨F, trivial⟩
            clear F gR sR
            cases hV : has (R i) v with
            | true =>
              have F := FH.out.1
              rw [hV] at F
              have hViH : Hid (has (R i) v = true) := hV
              clear hV
              go_wp2_with (go_at_call 13; refine F.mono ?_; rintro e w3 ⟨rfl, hH3, hK3⟩)
              refine postH.out _ _ ⟨SH.out.keep.into hK3 fun k _ e => .inr (.inr (.inr ⟨i, hi, e.symm⟩)), .inr (.inl ⟨hAH.out, hVH.out, rfl, i, hi, hViH.out, SH.out.none, hH3⟩)⟩
            | false =>
              have F := FH.out.1
              rw [hV, put_id hV, upd_self] at F
              have hViH : Hid (has (R i) v = false) := hV
              clear hV
              go_wp2_with (go_at_call 13; refine F.mono ?_; rintro e w3 ⟨rfl, hH3, hK3⟩)
              go_roundg (n - (i + 1))
              case measure => omega
              case rel =>
                refine ⟨i + 1, rfl, by go_num, ⟨by omega, hH3, SH.out.keep.into hK3 fun k _ e => .inr (.inr (.inr ⟨i, hi, e.symm⟩)), fun j hj => ?_, SH.out.box.keep SH.out.bl hK3 fun e => footB.out B (.inr (.inr (.inr ⟨i, hi, e.symm⟩))) rfl, Nat.lt_of_lt_of_le SH.out.bl hK3.size⟩⟩
                by_cases e : j = i
                · subst e; exact hViH.out
                · exact SH.out.none j (by omega)
          · have hi' : ¬ (i : Int) < (n : Int) := by omega
            go_wp2
            go_meet
            case rel =>
              have hS := SH.out
              have hA := hAH.out
              refine ⟨by rw [hA]; exact hS.hist, hS.keep, fun _ => ⟨hVH.out, fun j hj => hS.none j (by omega)⟩, hS.box, hS.bl⟩
  case rest =>
    have MH : Hid (Mid1 base w wc h vv pv vs n G C R t0 t1 v B) := hcut
    clear hcut HW gW sW BxH BlH EH d0 d1 d2 d3 d4 d5
    obtain ⟨T0, hT0⟩ : ∃ T, (if abv vs.length n t0 t1 v then v.s else t0) = T := ⟨_, rfl⟩
    obtain ⟨T1, hT1⟩ : ∃ T, (if abv vs.length n t0 t1 v then v.t else t1) = T := ⟨_, rfl⟩
    have HcH : Hid (Hist base wc h vv pv vs n G C R T0 T1) := by have := MH.out.hist; rw [hT0, hT1] at this; exact this
    have hTH : Hid ((if abv vs.length n t0 t1 v then v.s else t0) = T0 ∧ (if abv vs.length n t0 t1 v then v.t else t1) = T1) := ⟨hT0, hT1⟩
    have ncH : Hid (abv vs.length n t0 t1 v = false → NoCopy vs n R v) := MH.out.none
    have neH : Hid (∀ i, i < n → ∀ u ∈ R i, cmpV u v ≠ 0) := by
      cases hA : abv vs.length n t0 t1 v with
      | true => exact abH.out hA
      | false => exact fun i hi => has_false.1 ((MH.out.none hA).2 i hi)
    clear hT0 hT1
    obtain ⟨d0, d1, d2, d3, d4, d5⟩ := MH.out.box
    obtain ⟨c0, c1, c2, c3, c4, c5, c6, c7⟩ := HcH.out.cells.at
    rw [hpvH.out] at c2
    clear c0 c1 c3 c4 c5 c6 c7
    obtain ⟨W0, k0, o0, hW0⟩ : ∃ W0 k0 o0, W0 = ext wc k0 o0 ∧ W0 = wc := ⟨wc, 0, [], ext_zero wc, rfl⟩
    rw [← hW0.2]
    obtain ⟨rfl, hW02⟩ := hW0
    clear hW02
    go_upto_region 13 with fail
    go_cut [9, 75] from 10 (fun s9 s75 wx => s9 = .int .i64 n ∧ s75 = .bool (fresh n R v) ∧ ∃ q : Pl, wx = ext wc q.n q.os)
    case first =>
      by_cases hn0 : n = 0
      · subst hn0
        refine region_ext mixed (by kernel_rfl) ?_
        repeat (open Go.BigFrame in go_big_quiet_step ((go_at_call 14; fail)))
        refine wpQuiet_nil ?_
        rintro _ ⟨q, rfl⟩
        go_wp2
        go_meet
        case rel => exact ⟨rfl, by simp [fresh], q, rfl⟩
      · obtain ⟨m, rfl⟩ : ∃ m, n = m + 1 := ⟨n - 1, by omega⟩
        obtain ⟨gp, cp', hpf, _, _⟩ := HcH.out.pown.form (by omega)
        have hap : ap = some ⟨gp, 0, none⟩ := by have := hpvH.out; rw [hpf] at this; cases this; rfl
        have hcp : cp' = cp := by have := hpvH.out; rw [hpf] at this; cases this; rfl
        subst hap
        subst hcp
        have pc := Hist.pcell (base := base) (w := wc) (h := h) (vv := vv) (vs := vs) (n := m + 1) (gp := gp) (cp := cp') (G := G) (C := C) (R := R) (t0 := T0) (t1 := T1) (by have := HcH.out; rw [hpf] at this; exact this) m (by omega)
        obtain ⟨x, hx⟩ : ∃ x, (R m).length = x := ⟨_, rfl⟩
        have hx0 : 0 < x := hx ▸ gH.out.rne m (by omega)
        have hxb : x ≤ 100000 := hx ▸ Nat.le_trans (cat_len_at (by omega)) gH.out.rlen
        obtain ⟨l, rfl⟩ : ∃ l, x = l + 1 := ⟨x - 1, by omega⟩
        have hrow := (HcH.out.rows m (by omega)).row
        rw [hx] at hrow
        obtain ⟨a0, a1, a2, a3, a4, a5⟩ := hrow.at (i := l) (by omega)
        simp only [ent, hx] at pc
        obtain ⟨y, hy⟩ : ∃ y, nth (R m) l = y := ⟨_, rfl⟩
        rw [hy] at a1 a2 a3 a4 a5
        have hymem : y ∈ R m := hy ▸ nth_mem (by omega)
        have F := fun k os => from_pl (fun w => cmpj y v w (gH.out.rok m (by omega) y hymem) hv) wc k os
        have hfr : fresh (m + 1) R v = decide (0 < cmpV y v) := by
          simp only [fresh, last, Nat.add_sub_cancel, hx, hy]
          simp
        have hfrH : Hid (fresh (m + 1) R v = decide (0 < cmpV y v)) := hfr
        obtain ⟨N, hN⟩ : ∃ N : Nat, m + 1 = N := ⟨_, rfl⟩
        obtain ⟨L, hL⟩ : ∃ L : Nat, l + 1 = L := ⟨_, rfl⟩
        have hN0 : ((N : Int) == 0) = false := by simp; omega
        have hN0' : (N == 0) = false := by simp; omega
        have hN0'' : decide (N = 0) = false := decide_eq_false (by omega)
        have hNn : ¬ N = 0 := by omega
        have eN : IntKind.i64.wrap ((N : Int) - 1) = (m : Int) := by rw [IntKind.wrap_i64] <;> omega
        have eL : IntKind.i64.wrap ((L : Int) - 1) = (l : Int) := by rw [IntKind.wrap_i64] <;> omega
        have iN : (m : Int) < (N : Int) := by omega
        have iL : (l : Int) < (L : Int) := by omega
        have NH : Hid (m + 1 = N) := hN
        have hnb' : N ≤ 100000 := by omega
        rw [hN] at c2 ⊢
        rw [hL] at pc
        have oldH : Hid (_ ∧ _) := And.intro hx hy
        clear hx hy hfr hN hL hx0 hxb hrow hnb hn0
        refine region_ext mixed (by kernel_rfl) ?_
        repeat (open Go.BigFrame in go_big_quiet_step ((go_at_call 14; exact F _ _)))
        refine wpQuiet_nil ?_
        rintro _ ⟨q, rfl⟩
        go_wp2
        go_meet
        case rel => exact ⟨by rw [NH.out], by rw [hfrH.out], q, rfl⟩
    case rest =>
      obtain ⟨rfl, rfl, q, rfl⟩ := hcut
      go_upto_if 75 with fail
      go_cut [9] from 10 (fun s9 wx => ∃ (m gp cp : Nat) (lv : Value) (xs : List V), s9 = .int .i64 ((m + 1 : Nat) : Int) ∧ Mid2 base w wx h vv pv vs n G C R T0 T1 v B m gp cp lv xs)
      case first =>
        have KQ : Hid (Keep (fun _ => False) wc (ext wc q.n q.os)) := Ext.keep ⟨_, _, rfl⟩ _
        cases hfr : fresh n R v with
        | true =>
          have hfrH : Hid (fresh n R v = true) := hfr
          clear hfr
          obtain ⟨inf, hi, hz0, hz1, hz2⟩ := info_parts inf27
          obtain ⟨WA, hWA, hEA, hBA, hkA, hsA⟩ := rlay (ext wc q.n q.os) (.slice none 0 0)
          have KA : Keep (fun _ => False) wc WA := KQ.out.trans (hEA.keep _)
          have KAH : Hid (Keep (fun _ => False) wc WA) := KA
          have hownA : WA.ownsRow base 27 1 (.slice ap n cp) n (ents G C R n) := by
            have := HcH.out.pown
            rw [hpvH.out] at this
            exact owns_of_block this fun k hk => KA.block k (this.lt k hk).2 id
          have oA : Hid (WA.ownsRow base 27 1 (.slice ap n cp) n (ents G C R n)) := hownA
          have bA : Hid (WA.heap[(ext wc q.n q.os).heap.size]? = some (.cells #[.slice none 0 0] 27 (0, 0))) := hBA
          have hbs : Hid (base ≤ WA.heap.size) := Nat.le_trans hbase (Nat.le_trans MH.out.keep.size KA.size)
          have infs : Hid (Yba.prog.info? 27 = some inf ∧ inf.zero = some (.slice none 0 0) ∧ inf.size = 1 ∧ inf.bytes = 24) := ⟨hi, hz0, hz1, hz2⟩
          clear hi hz0 hz1 hz2 hEA hBA hkA hsA KA hownA
          have nx : Hid (∀ w1, WA.grownBy w1 (Value.ownBlock (.slice ap n cp)) → HCells w1 h vv (.slice ap n cp) T0 T1) := fun w1 hg => by
            have hcc := HcH.out.cells
            have hpne := HcH.out.hp
            rw [hpvH.out] at hcc hpne
            exact ((hg.block h (Nat.lt_of_lt_of_le hcc.lt KAH.out.size) (fun e => hpne e.symm)).trans (KAH.out.block h hcc.lt id)).trans hcc
          go_wp2_with (at_builtin; refine wpList_append_lies WA rfl (.tmp 80) (.tmp 81) 34 rfl base 27 inf _ 1 24 und34 infs.out.1 infs.out.2.1 infs.out.2.2.1 infs.out.2.2.2 rfl (by omega) (.slice ap n cp) n (ents G C R n) rfl oA.out ⟨(ext wc q.n q.os).heap.size, 0, none⟩ 1 1 [.slice none 0 0] rfl rfl (World.news_of_block bA.out) (by simp [Value.oneCell']) (by omega) (by simp only [maxLen]; omega) (by omega) hbs.out WA.heap.size rfl ?_; intro gp1 cp1 w1 hown1 hgr1 hat1 hlt1; have hc1 := (nx.out w1 hgr1).at.2.2.1 0 []; rw [← ext_zero] at hc1; have hf1 := (nx.out w1 hgr1).frozen 2)
          go_meet
          case rel =>
            have hH := HcH.out
            rw [hpvH.out] at hH
            have hpre := hH.opened KAH.out hgr1 hown1
            have K1 : Keep (fun k => Value.ownBlock (.slice ap n cp) = some k ∨ k = h) wc (w1.setCell ⟨h, 2, none⟩ (.slice (some ⟨gp1, 0, none⟩) (n + 1) cp1)) :=
              ((((KAH.out.weak (fun _ _ e => e.elim)).grown hgr1 (fun k e => .inl e))).setCell (.inr rfl) _)
            refine ⟨n, gp1, cp1, .slice none 0 0, [], by go_num, hpre, ?_, ?_, by simp [Value.ownBlock], .inl ⟨hfrH.out, rfl, rfl⟩, ?_, ?_⟩
            · refine MH.out.keep.into K1 fun k _ e => ?_
              rcases e with e | e
              · exact .inr (.inr (.inl (by rw [hpvH.out]; exact e)))
              · exact .inl e
            · rcases hat1 with e | e
              · exact .inl (by rw [hpvH.out]; exact e)
              · exact .inr (by rw [e]; exact Nat.le_trans MH.out.keep.size KAH.out.size)
            · refine MH.out.box.keep MH.out.bl K1 fun e => ?_
              rcases e with e | e
              · exact footB.out B (.inr (.inr (.inl (by rw [hpvH.out]; exact e)))) rfl
              · exact footB.out B (.inl e) rfl
            · exact Nat.lt_of_lt_of_le MH.out.bl K1.size
        | false =>
          have hfrH : Hid (fresh n R v = false) := hfr
          clear hfr
          go_wp2
          go_meet
          case rel =>
            have hn0 : ¬ n = 0 := fun e => by have := hfrH.out; simp [fresh, e] at this
            obtain ⟨m, rfl⟩ : ∃ m, n = m + 1 := ⟨n - 1, by omega⟩
            obtain ⟨gp, cp', hpf, _, _⟩ := HcH.out.pown.form (by omega)
            have hH := HcH.out.keep KQ.out (fun _ _ e => e)
            rw [hpf] at hH
            refine ⟨m, gp, cp', ent G C R m, R m, rfl, hH.pre, ?_, .inl (by rw [hpf]; rfl), ?_, .inr ⟨hfrH.out, rfl, rfl⟩, MH.out.box.keep MH.out.bl KQ.out id, Nat.lt_of_lt_of_le MH.out.bl KQ.out.size⟩
            · exact MH.out.keep.into KQ.out fun _ _ e => e.elim
            · intro k e
              exact .inr (.inr (.inr ⟨m, by omega, Option.some.inj e⟩))
      case rest => --SKIP3
        obtain ⟨m, gp, cp1, lv, xs, rfl, hM2⟩ := hcut
        have M2 : Hid (Mid2 base w wc h vv pv vs n G C R T0 T1 v B m gp cp1 lv xs) := hM2
        clear hM2 MH HcH d0 d1 d2 d3 d4 d5 c2
        have hmb : m ≤ 100000 := by rcases M2.out.how with ⟨_, e, _⟩ | ⟨_, e, _⟩ <;> omega
        have hxb : xs.length ≤ 100000 := by
          rcases M2.out.how with ⟨_, _, e⟩ | ⟨_, e, e2⟩
          · rw [e]; simp
          · rw [e2]; exact Nat.le_trans (cat_len_at (by omega)) gH.out.rlen
        have eN : IntKind.i64.wrap (((m + 1 : Nat) : Int) - 1) = (m : Int) := by rw [IntKind.wrap_i64] <;> omega
        have iN : (m : Int) < ((m + 1 : Nat) : Int) := by omega
        obtain ⟨M, hM⟩ : ∃ M : Nat, m + 1 = M := ⟨_, rfl⟩
        have MmH : Hid (m + 1 = M) := hM
        obtain ⟨e0, e1, e2, e3, e4, e5⟩ := M2.out.box.here
        obtain ⟨A, L, Cs, hsg⟩ := sH.out.sgF
        have sgH : Hid (v.sg = .slice A L Cs) := hsg
        have c2 := M2.out.pre.cells.at.2.2.1 0 []
        rw [← ext_zero] at c2
        have pc := M2.out.pre.pown.cells (g := gp) rfl m lv (by rw [List.getElem?_append_right (by rw [ents_length]; omega), ents_length, Nat.sub_self]; rfl)
        rw [Addr.add_lit, Nat.zero_add] at pc
        obtain ⟨cgp, hgpb⟩ := owns_type M2.out.pre.pown (k := gp) rfl
        have hfz : wc.frozen? ⟨gp, m, none⟩ = false := by simp [World.frozen?, hgpb]
        have gpl : gp < wc.heap.size := (Array.getElem?_eq_some_iff.1 hgpb).1
        have hfzA : ∀ o, (wc.alloc o).drew.frozen? ⟨gp, m, none⟩ = false := fun o => (World.frozen?_of_block (w := wc) (w' := (wc.alloc o).drew) (a := ⟨gp, m, none⟩) (Below.heap_alloc wc o gp gpl)).trans hfz
        have hfzB : ∀ o, (wc.alloc o).frozen? ⟨gp, m, none⟩ = false := fun o => (World.frozen?_of_block (w := wc) (w' := wc.alloc o) (a := ⟨gp, m, none⟩) (Below.heap_alloc wc o gp gpl)).trans hfz
        have hhl : h < wc.heap.size := M2.out.pre.cells.lt
        have hBl : B < wc.heap.size := M2.out.bl
        have tyl : ∀ k, lv.ownBlock = some k → ∃ c, wc.heap[k]? = some (.cells c 29 (0, 0)) := fun k e => owns_type M2.out.pre.lown e
        have ngp : lv.ownBlock ≠ some gp := fun e => by obtain ⟨c, hb⟩ := tyl gp e; rw [hgpb] at hb; simp at hb
        have nh : lv.ownBlock ≠ some h := fun e => by obtain ⟨c, hb⟩ := tyl h e; have := M2.out.pre.cells; unfold HCells at this; rw [this] at hb; simp at hb
        have nB : lv.ownBlock ≠ some B := fun e => footB.out B (M2.out.lvok B e) rfl
        rw [hsg] at e5
        rw [hM] at c2 eN iN ⊢
        obtain ⟨inf, hi, hz0, hz1, hz2⟩ := info_parts inf29
        have infs : Hid (Yba.prog.info? 29 = some inf ∧ inf.zero = some (.agg #[.string ⟨#[]⟩, .string ⟨#[]⟩, .string ⟨#[]⟩, .int .u64 0, .int .u64 0, .slice none 0 0]) ∧ inf.size = 6 ∧ inf.bytes = 88) := ⟨hi, hz0, hz1, hz2⟩
        have LO : Hid (∀ X : World, X.heap = (wc.alloc (Obj.cells #[Value.string ⟨#[120]⟩, Value.string (str v.src), Value.string (str v.tgt), Value.int IntKind.u64 v.s, Value.int IntKind.u64 v.t, Value.slice A L Cs] 29)).heap →
            X.ownsRow base 29 6 lv xs.length (cellsOf xs) ∧ (∀ j u, v.list[j]? = some u → X.cell? ((⟨wc.heap.size, 0, none⟩ : Addr).add j) = some u) ∧ base ≤ X.heap.size ∧ X.heap.size = wc.heap.size + 1) := fun X hX => by
          have hk : ∀ k, k < wc.heap.size → X.heap[k]? = wc.heap[k]? := fun k hk => by rw [hX]; exact Below.heap_alloc _ _ _ hk
          have hsz : X.heap.size = wc.heap.size + 1 := by rw [hX]; simp
          refine ⟨owns_of_block M2.out.pre.lown fun k e => hk k (M2.out.pre.lown.lt k e).2, ?_, ?_, hsz⟩
          · refine vnews (fz := (0, 0)) ?_
            rw [hX]
            refine (Deep.blk_alloc_new _ _).trans ?_
            simp only [V.list, sgH.out]
          · have := M2.out.keep.size; omega
        have oneH : Hid (∀ u ∈ v.list, u.oneCell' = true) := list_one v sH.out.one
        clear hM hsg tyl hi hz0 hz1 hz2 hgpb
        go_upto_region 16 with fail
        refine region_ways (n := 15) 18 (fun w' => w'.cell? ⟨h, 2, none⟩ = some (.slice (some ⟨gp, 0, none⟩) M cp1) ∧ w'.cell? ⟨gp, m, none⟩ = some lv ∧ w'.cell? ⟨B, 0, none⟩ = some (.string ⟨#[120]⟩) ∧ w'.cell? ⟨B, 1, none⟩ = some (.string (str v.src)) ∧ w'.cell? ⟨B, 2, none⟩ = some (.string (str v.tgt)) ∧ w'.cell? ⟨B, 3, none⟩ = some (.int .u64 v.s) ∧ w'.cell? ⟨B, 4, none⟩ = some (.int .u64 v.t) ∧ w'.cell? ⟨B, 5, none⟩ = some (.slice A L Cs)) mixed (by simp) (by kernel_rfl) (by kernel_rfl) (by kernel_rfl) (fun _ _ d _ _ h => by cases d <;> exact h) ⟨c2, pc, e0, e1, e2, e3, e4, e5⟩ ?_
        simp only [List.take_succ_cons, List.take_zero]
        iterate 15
          refine Reads.cons (v := ?_) (by rfl) (fun w hSw => ?_) ?_
          rotate_left
          · (try dsimp only at hSw)
            go_simp
            try with_reducible rfl
          simp only [Act.put, List.setIfInBounds_toArray, List.set_cons_zero, List.set_cons_succ]
        refine Reads.nil ?_
        have keepS : Hid (∀ X : World, X.heap = (wc.alloc (Obj.cells #[Value.string ⟨#[120]⟩, Value.string (str v.src), Value.string (str v.tgt), Value.int IntKind.u64 v.s, Value.int IntKind.u64 v.t, Value.slice A L Cs] 29)).heap → ∀ k, k < wc.heap.size → X.heap[k]? = wc.heap[k]?) := fun X hX k hk => by rw [hX]; exact Below.heap_alloc _ _ _ hk
        refine Ways.step (k := 15) (f := 3) (by kernel_rfl) rfl (fun K hK => ?_)
        go_simp
        refine hK.out _ _ (fun _ => ?_) ?_
        · have kk := fun (a : Addr) (ha : a.block < wc.heap.size) => World.cell?_of_block (w := wc) (a := a) (keepS.out _ rfl a.block ha)
          exact ⟨(kk _ hhl).trans c2, (kk _ gpl).trans pc, (kk _ hBl).trans e0, (kk _ hBl).trans e1, (kk _ hBl).trans e2, (kk _ hBl).trans e3, (kk _ hBl).trans e4, (kk _ hBl).trans e5⟩
        clear hK K
        (try simp only [Act.put, List.setIfInBounds_toArray, List.set_cons_zero, List.set_cons_succ])
        refine Ways.step (k := 16) (f := 2) (by kernel_rfl) rfl (fun K hK => ?_)
        refine step_append_lies _ (by rfl) _ _ _ (by rfl) base 29 inf _ 6 88 und27 infs.out.1 infs.out.2.1 infs.out.2.2.1 infs.out.2.2.2 rfl (by omega) lv xs.length (cellsOf xs) (by rfl) (LO.out _ rfl).1
              ⟨wc.heap.size, 0, none⟩ 1 1 v.list (by rfl) (by rfl) (LO.out _ rfl).2.1 oneH.out
              (by omega) (by simp only [maxLen]; omega) (by omega) (LO.out _ rfl).2.2.1 (wc.heap.size + 1) (LO.out _ rfl).2.2.2 ?_
        intro g1 cap1 w1 hown1 hgrow hat1 hlt1
        have K1 : Keep (fun k => lv.ownBlock = some k) wc w1 :=
          ⟨hgrow.os, hgrow.tape, hgrow.output, Nat.le_trans (by simp) hgrow.size, fun k hk hn => (hgrow.block k (Nat.lt_of_lt_of_le hk (by simp)) (fun e => hn e.symm)).trans (keepS.out _ rfl k hk)⟩
        have tk0 := fun KA => M2.out.pre.taken (v := v) (Hs := wc.heap.size + 1) KA hgrow (by omega) hown1 hat1
        have tk := tk0 ⟨rfl, rfl, rfl, by simp, fun k hk _ => keepS.out _ rfl k hk⟩
        clear tk0
        have tkH : Hid (_ ∧ _) := tk
        clear tk
        have kk : ∀ (a : Addr), a.block < wc.heap.size → lv.ownBlock ≠ some a.block → w1.cell? a = wc.cell? a := fun a ha hn => World.cell?_of_block (w := wc) (K1.block a.block ha hn)
        refine hK.out _ _ (fun _ => ⟨(kk _ hhl nh).trans c2, (kk _ gpl ngp).trans pc, (kk _ hBl nB).trans e0, (kk _ hBl nB).trans e1, (kk _ hBl nB).trans e2, (kk _ hBl nB).trans e3, (kk _ hBl nB).trans e4, (kk _ hBl nB).trans e5⟩) ?_
        clear hK K
        (try simp only [Act.put, List.setIfInBounds_toArray, List.set_cons_zero, List.set_cons_succ])
        have f2 : w1.cell? ⟨h, 2, none⟩ = some (.slice (some ⟨gp, 0, none⟩) M cp1) := (kk _ hhl nh).trans c2
        have fp : w1.cell? ⟨gp, m, none⟩ = some lv := (kk _ gpl ngp).trans pc
        have ff : w1.frozen? ⟨gp, m, none⟩ = false := (World.frozen?_of_block (w := wc) (w' := w1) (a := ⟨gp, m, none⟩) (K1.block gp gpl ngp)).trans hfz
        have f8 : Hid (w1.cell? ⟨B, 0, none⟩ = some (.string ⟨#[120]⟩) ∧ w1.cell? ⟨B, 1, none⟩ = some (.string (str v.src)) ∧ w1.cell? ⟨B, 2, none⟩ = some (.string (str v.tgt)) ∧ w1.cell? ⟨B, 3, none⟩ = some (.int .u64 v.s) ∧ w1.cell? ⟨B, 4, none⟩ = some (.int .u64 v.t) ∧ w1.cell? ⟨B, 5, none⟩ = some (.slice A L Cs)) := ⟨(kk _ hBl nB).trans e0, (kk _ hBl nB).trans e1, (kk _ hBl nB).trans e2, (kk _ hBl nB).trans e3, (kk _ hBl nB).trans e4, (kk _ hBl nB).trans e5⟩
        clear kk c2 pc e0 e1 e2 e3 e4 e5 hfz hfzA hfzB
        refine Ways.step (k := 17) (f := 1) (by kernel_rfl) rfl (fun K hK => ?_)
        go_simp
        refine hK.out _ _ (fun _ => ⟨f2, fp, f8.out⟩) ?_
        clear hK K
        (try simp only [Act.put, List.setIfInBounds_toArray, List.set_cons_zero, List.set_cons_succ])
        refine Ways.step (k := 18) (f := 0) (by kernel_rfl) rfl (fun K hK => ?_)
        go_simp
        refine hK.out _ _ (fun e => absurd rfl e) ?_
        clear hK K
        (try simp only [Act.put, List.setIfInBounds_toArray, List.set_cons_zero, List.set_cons_succ])
        refine Ways.done (by kernel_rfl) ?_
        have L0 : Hid (Lp base w (w1.setCell ⟨gp, m, none⟩ (.slice (some ⟨g1, 0, none⟩) (xs.length + 1) cap1)) h vv pv vs n G R T0 T1 v m gp cp1 (xs ++ [v]) (upd G m g1) (upd C m cap1)) := by
          obtain ⟨hH, hK⟩ := tkH.out
          refine ⟨hH, M2.out.keep.into hK ?_, ?_, ?_, ?_, ?_⟩
          · intro k hk e
            rcases e with e | e
            · exact M2.out.lvok k e
            · subst e
              rcases M2.out.gpok with e | e
              · exact .inr (.inr (.inl e))
              · omega
          · rcases M2.out.how with ⟨_, e, _⟩ | ⟨_, e, _⟩ <;> omega
          · rcases M2.out.how with ⟨_, e, e2⟩ | ⟨hf, e, e2⟩
            · rw [e2]; simp [Srt]
            · subst e2
              refine srt_last (gH.out.rsrt m (by omega)) v fun h0 => ?_
              have h1 := neH.out m (by omega) (last (R m)) (nth_mem (by omega))
              simp only [fresh, e, Nat.add_sub_cancel, Bool.or_eq_false_iff, decide_eq_false_iff_not] at hf
              have h2 := hf.2
              omega
          · rcases M2.out.how with ⟨_, e, e2⟩ | ⟨_, e, e2⟩
            · rw [e2, e, cat_nil R n n (by omega)]; simp
            · rw [e2, e, cat_front R m (m + 1) (by omega), cat_nil R (m + 1) (m + 1) (by omega), List.append_nil]
              exact List.perm_append_comm
          · rcases M2.out.how with ⟨hf, e, e2⟩ | ⟨hf, e, e2⟩
            · simp only [n0, l0, hf, if_true, e2, e, List.nil_append, List.length_singleton]
            · have hf' : fresh (m + 1) R v = false := by rw [← e]; exact hf
              have hn : n0 n R v = m + 1 ∧ l0 n R v = (R m).length + 1 := by simp [n0, l0, e, hf']
              rw [hn.1, hn.2, e2]
              simp
        have gpokH : Hid (pv.ownBlock = some gp ∨ w.heap.size ≤ gp) := M2.out.gpok
        clear tkH f2 fp ff f8 LO keepS oneH infs hown1 hgrow hat1 hlt1 K1 nh ngp nB hBl hhl gpl sgH M2 hmb hxb eN iN
        go_wp2
        go_loopg [9] (m + 1) (fun d s9 wr => ∃ (p cp : Nat) (T : List V) (G' C' : Nat → Nat), d = p + 1 ∧ s9 = .int .i64 ((p + 1 : Nat) : Int) ∧ Lp base w wr h vv pv vs n G R T0 T1 v p gp cp T G' C')
        case atStart => exact ⟨m, cp1, _, _, _, rfl, by rw [MmH.out], L0.out⟩
        case round =>
          obtain ⟨p, cp2, T, G', C', hd, rfl, hL⟩ := hrel
          have LH : Hid (Lp base w wr h vv pv vs n G R T0 T1 v p gp cp2 T G' C') := hL
          clear hL L0
          have hpb : p ≤ 100000 := Nat.le_trans LH.out.mn hnb
          have hTl : T.length = 1 + (cat R p n).length := by rw [LH.out.perm.length_eq]; simp; omega
          have hTb : T.length ≤ 100001 := by
            have h1 := congrArg List.length (cat_split R p n LH.out.mn)
            rw [List.length_append] at h1
            have := gH.out.rlen
            omega
          obtain ⟨c0, c1, c2, c3, c4, c5, c6, c7⟩ := LH.out.hist.cells.at
          clear c0 c1 c3 c4 c5 c6 c7 hTl
          obtain ⟨lt, hlt⟩ : ∃ l, T.length = l := ⟨_, rfl⟩
          have ltH : Hid (T.length = lt) := hlt
          rw [hlt] at hTb
          have pm := LH.out.hist.pcell p (by omega)
          simp only [ent, upd_same] at pm
          rw [hlt] at pm
          clear hlt
          obtain ⟨W0, k0, o0, hW0⟩ : ∃ W0 k0 o0, W0 = ext wr k0 o0 ∧ W0 = wr := ⟨wr, 0, [], ext_zero wr, rfl⟩
          rw [← hW0.2]
          obtain ⟨rfl, hW02⟩ := hW0
          clear hW02
          have exitH : Hid (∀ k os, stop (len R) (p + 1) T.length = p + 1 → POST (.returned (.bool true)) (ext wr k os)) := fun k os hst => by
            have KE : Keep (fun _ => False) wr (ext wr k os) := Ext.keep ⟨_, _, rfl⟩ _
            refine postH.out _ _ ⟨LH.out.keep.into KE (fun _ _ e => e.elim), .inr (.inr ⟨?_, rfl, .slice (some ⟨gp, 0, none⟩) (p + 1) cp2, p, G', C', T, ?_, LH.out.mn, LH.out.srt, LH.out.perm, ?_⟩)⟩
            · exact ncH.out
            · rw [hTH.out.1, hTH.out.2]; exact LH.out.hist.keep KE (fun _ _ e => e)
            · rw [← LH.out.st, hst]
          by_cases hp0 : p = 0
          · subst hp0
            go_wp2
            refine region_ext mixed (by kernel_rfl) ?_
            repeat (open Go.BigFrame in go_big_quiet_step ((go_at_call 14; fail)))
            refine wpQuiet_nil ?_
            rintro _ ⟨q, rfl⟩
            go_wp2
            exact exitH.out _ _ (by simp [stop])
          · obtain ⟨r, rfl⟩ : ∃ r, p = r + 1 := ⟨p - 1, by omega⟩
            have pr := LH.out.hist.pcell r (by omega)
            simp only [ent] at pr
            rw [upd_ne R (r + 1) r T (by omega)] at pr
            obtain ⟨lr, hlr⟩ : ∃ l, (R r).length = l := ⟨_, rfl⟩
            have lrH : Hid ((R r).length = lr) := hlr
            have hlrb : lr ≤ 100000 := by rw [← hlr]; exact Nat.le_trans (cat_len_at (by have := LH.out.mn; omega)) gH.out.rlen
            rw [hlr] at pr
            clear hlr hp0
            obtain ⟨Np, hNp⟩ : ∃ x : Nat, r + 1 + 1 = x := ⟨_, rfl⟩
            obtain ⟨q1, hq1⟩ : ∃ x : Nat, r + 1 = x := ⟨_, rfl⟩
            have NpH : Hid (r + 1 + 1 = Np ∧ r + 1 = q1) := ⟨hNp, hq1⟩
            have gd : decide ((1 : Int) < (Np : Int)) = true := decide_eq_true (by omega)
            have gdN : 1 < Np := by omega
            have ew1 : IntKind.i64.wrap ((Np : Int) - 1) = (q1 : Int) := by rw [IntKind.wrap_i64] <;> omega
            have ew2 : IntKind.i64.wrap ((Np : Int) - 2) = (r : Int) := by rw [IntKind.wrap_i64] <;> omega
            have iw1 : (q1 : Int) < (Np : Int) := by omega
            have iw2 : (r : Int) < (Np : Int) := by omega
            have ewm : IntKind.i64.wrap (2 * (lt : Int)) = 2 * (lt : Int) := by rw [IntKind.wrap_i64] <;> omega
            have hqb : Np ≤ 200000 := by omega
            rw [hNp] at c2 ⊢
            rw [hq1] at pm
            clear hNp hq1 hpb
            by_cases hc : lr < 2 * lt
            · have hc' : decide ((lr : Int) < 2 * (lt : Int)) = true := decide_eq_true (by omega)
              have hcI : (lr : Int) < 2 * (lt : Int) := by omega
              go_wp2
              refine region_ext mixed (by kernel_rfl) ?_
              repeat (open Go.BigFrame in go_big_quiet_step ((go_at_call 14; fail)))
              refine wpQuiet_nil ?_
              rintro _ ⟨q, rfl⟩
              have cH2 : Hid (∀ k os, (ext wr k os).cell? ⟨h, 2, none⟩ = some (.slice (some ⟨gp, 0, none⟩) Np cp2)) := c2
              have rdR : Hid (∀ X, Keep (fun _ => False) wr X → Rd X (G' r) (C' r) (R r)) := fun X kX => by
                have hr : r < n := by have := LH.out.mn; omega
                have hO := (LH.out.hist.rows r (by omega)).keep kX id
                rw [upd_ne R (r + 1) r T (by omega)] at hO
                exact ⟨hO, by rw [lrH.out]; omega, gH.out.rok r hr, fun u hu => (gH.out.rsig r hr u hu).sgF, gH.out.rsrt r hr⟩
              have Tmem : Hid (∀ u ∈ T, u = v ∨ ∃ i, r + 1 ≤ i ∧ i < n ∧ u ∈ R i) := fun u hu => by
                have := LH.out.perm.mem_iff.1 hu
                rcases List.mem_cons.1 this with e | e
                · exact .inl e
                · exact .inr (cat_mem.1 e)
              have rdT : Hid (∀ X, Keep (fun _ => False) wr X → Rd X (G' (r + 1)) (C' (r + 1)) T) := fun X kX => by
                have hO := (LH.out.hist.rows (r + 1) (by omega)).keep kX id
                rw [upd_same] at hO
                refine ⟨hO, by rw [ltH.out]; omega, fun u hu => ?_, fun u hu => ?_, LH.out.srt⟩
                · rcases Tmem.out u hu with e | ⟨i, _, hi, hu⟩
                  · rw [e]; exact hv
                  · exact gH.out.rok i hi u hu
                · rcases Tmem.out u hu with e | ⟨i, _, hi, hu⟩
                  · rw [e]; exact sH.out.sgF
                  · exact (gH.out.rsig i hi u hu).sgF
              have disT : Hid (∀ a ∈ R r, ∀ b ∈ T, cmpV a b ≠ 0) := fun a ha b hb => by
                have hr : r < n := by have := LH.out.mn; omega
                rcases Tmem.out b hb with e | ⟨i, h1, hi, hu⟩
                · rw [e]; exact neH.out r hr a ha
                · exact gH.out.rdis r i (by omega) hi a ha b hu
              obtain ⟨wq, hwq⟩ : ∃ wq, ext wr q.n q.os = wq := ⟨_, rfl⟩
              have KQ : Hid (Keep (fun _ => False) wr wq.drew) := by rw [← hwq]; exact (Ext.keep ⟨_, _, rfl⟩ _).drew
              have d2 : wq.drew.cell? ⟨h, 2, none⟩ = some (.slice (some ⟨gp, 0, none⟩) Np cp2) := by rw [← hwq]; exact c2 (q.n + 1) q.os
              have dr : wq.drew.cell? ⟨gp, r, none⟩ = some (.slice (some ⟨G' r, 0, none⟩) lr (C' r)) := by rw [← hwq]; exact pr (q.n + 1) q.os
              have dm : wq.drew.cell? ⟨gp, q1, none⟩ = some (.slice (some ⟨G' q1, 0, none⟩) lt (C' q1)) := by rw [← hwq]; exact pm (q.n + 1) q.os
              have Fm := merge_any (G' r) (C' r) (G' (r + 1)) (C' (r + 1)) (R r) T wq.drew (rdR.out _ KQ.out) (rdT.out _ KQ.out) disT.out
              rw [NpH.out.2, lrH.out, ltH.out] at Fm
              have FmH : Hid (_ ∧ True) := ⟨Fm, trivial⟩
              clear Fm c2 pm pr
              go_upto_region 19 with fail
              rw [hwq]
              clear hwq
              refine region_ways (n := 22) 24 (fun w' => w'.cell? ⟨h, 2, none⟩ = some (.slice (some ⟨gp, 0, none⟩) Np cp2) ∧ w'.cell? ⟨gp, r, none⟩ = some (.slice (some ⟨G' r, 0, none⟩) lr (C' r)) ∧ w'.cell? ⟨gp, q1, none⟩ = some (.slice (some ⟨G' q1, 0, none⟩) lt (C' q1))) mixed (by simp) (by kernel_rfl) (by kernel_rfl) (by kernel_rfl) (fun _ _ d _ _ h => by cases d <;> exact h) ⟨d2, dr, dm⟩ ?_
              simp only [List.take_succ_cons, List.take_zero]
              iterate 22
                refine Reads.cons (v := ?_) (by rfl) (fun w hSw => ?_) ?_
                rotate_left
                · (try dsimp only at hSw)
                  go_simp
                  try with_reducible rfl
                simp only [Act.put, List.setIfInBounds_toArray, List.set_cons_zero, List.set_cons_succ]
              refine Reads.nil ?_
              refine Ways.step (k := 22) (f := 2) (by kernel_rfl) rfl (fun K hK => ?_)
              go_simp
              refine FmH.out.1.mono ?_
              rintro e w2 ⟨g2, M2, rfl, hg2, hO2, hP2, hS2, hK2⟩
              rw [lrH.out, ltH.out] at hO2
              have hHr := LH.out.hist
              have K2 : Keep (fun _ => False) wr w2 := KQ.out.trans hK2
              have hhl : h < wq.drew.heap.size := Nat.lt_of_lt_of_le hHr.cells.lt KQ.out.size
              have gpl : gp < wq.drew.heap.size := Nat.lt_of_lt_of_le (hHr.pown.lt gp rfl).2 KQ.out.size
              have kk : ∀ (a : Addr), a.block < wq.drew.heap.size → w2.cell? a = wq.drew.cell? a := fun a ha => World.cell?_of_block (w := wq.drew) (hK2.block a.block ha id)
              have S2 : Hid (w2.cell? ⟨h, 2, none⟩ = some (.slice (some ⟨gp, 0, none⟩) Np cp2) ∧ w2.cell? ⟨gp, r, none⟩ = some (.slice (some ⟨G' r, 0, none⟩) lr (C' r)) ∧ w2.cell? ⟨gp, q1, none⟩ = some (.slice (some ⟨G' q1, 0, none⟩) lt (C' q1))) := ⟨(kk _ hhl).trans d2, (kk _ gpl).trans dr, (kk _ gpl).trans dm⟩
              obtain ⟨cgp, hgpb⟩ := owns_type hHr.pown (k := gp) rfl
              have ff : w2.frozen? ⟨gp, r, none⟩ = false := by
                have h1 : w2.heap[gp]? = some (.cells cgp 27 (0, 0)) := (K2.block gp (hHr.pown.lt gp rfl).2 id).trans hgpb
                simp [World.frozen?, h1]
              have ff2 : w2.frozen? ⟨h, 2, none⟩ = false := HCells.frozen (h := h) ((K2.block h hHr.cells.lt id).trans hHr.cells) 2
              have hcpb : (q1 : Int) ≤ (cp2 : Int) := by
                rcases hHr.pown.2 with ⟨e, _⟩ | ⟨g', cap', cur, e, _, _, h3, _⟩
                · cases e
                · cases e
                  have := NpH.out
                  omega
              have hgph : ¬ gp = h := fun e => hHr.hp (by rw [← e]; rfl)
              have hgph' : ¬ h = gp := fun e => hgph e.symm
              have mg := hHr.merged (m := r) K2 (g := g2) (N := lr + lt) (M := M2) (by have := KQ.out.size; have := hg2; omega) hO2 (by have := LH.out.keep.size; omega)
              have lM : M2.length = lr + lt := by rw [hP2.length_eq, List.length_append, lrH.out, ltH.out]
              rw [lM] at mg
              have mgH : Hid (_ ∧ _) := mg
              have rest : Hid (M2.Perm (R r ++ T) ∧ Srt M2 ∧ M2.length = lr + lt) := ⟨hP2, hS2, lM⟩
              rw [lrH.out, ltH.out]
              refine hK.out _ _ (fun _ => S2.out) ?_
              clear hK K kk d2 dr dm hHr hg2 hO2 hP2 hS2 hK2 K2 mg lM hhl gpl hgpb FmH rdR rdT disT
              (try simp only [Act.put, List.setIfInBounds_toArray, List.set_cons_zero, List.set_cons_succ])
              obtain ⟨s1, s2, s3⟩ := S2.out
              refine Ways.step (k := 23) (f := 1) (by kernel_rfl) rfl (fun K hK => ?_)
              go_simp
              refine hK.out _ _ (fun _ => S2.out) ?_
              clear hK K
              (try simp only [Act.put, List.setIfInBounds_toArray, List.set_cons_zero, List.set_cons_succ])
              refine Ways.step (k := 24) (f := 0) (by kernel_rfl) rfl (fun K hK => ?_)
              go_simp
              refine hK.out _ _ (fun e => absurd rfl e) ?_
              clear hK K
              (try simp only [Act.put, List.setIfInBounds_toArray, List.set_cons_zero, List.set_cons_succ])
              refine Ways.done (by kernel_rfl) ?_
              go_wp2
              go_roundg (r + 1)
              case measure => omega
              case rel =>
                obtain ⟨eN, e1⟩ := NpH.out
                subst e1
                obtain ⟨mH, mK⟩ := mgH.out
                obtain ⟨rP, rS, rL⟩ := rest.out
                have hrn : r < n := by have := LH.out.mn; omega
                refine ⟨r, cp2, M2, upd G' r g2, upd C' r (lr + lt), rfl, rfl, ⟨mH.congr fun i hi => ?_, ?_, by omega, rS, ?_, ?_⟩⟩
                · by_cases e : i = r
                  · subst e; rw [upd_same, upd_same]
                  · rw [upd_ne _ _ _ _ e, upd_ne _ _ _ _ e, upd_ne _ _ _ _ (by omega)]
                · refine LH.out.keep.into mK fun k hk e => ?_
                  rcases e with e | e
                  · subst e
                    rcases gpokH.out with e | e
                    · exact .inr (.inr (.inl e))
                    · omega
                  · exact .inl e
                · refine rP.trans ((LH.out.perm.append_left _).trans ?_)
                  rw [cat_front R r n hrn]
                  exact List.perm_middle
                · rw [rL, ← LH.out.st, ltH.out, stop_yes _ _ _ (by simp only [len]; rw [lrH.out]; omega)]
                  congr 1
                  simp only [len]
                  rw [lrH.out]
                  omega
            · have hc' : decide ((lr : Int) < 2 * (lt : Int)) = false := decide_eq_false (by omega)
              go_wp2
              refine region_ext mixed (by kernel_rfl) ?_
              repeat (open Go.BigFrame in go_big_quiet_step ((go_at_call 14; fail)))
              refine wpQuiet_nil ?_
              rintro _ ⟨q, rfl⟩
              go_wp2
              refine exitH.out _ _ ?_
              have h1 := ltH.out
              have h2 := lrH.out
              exact stop_no _ _ _ (by simp only [len]; rw [h1, h2]; omega)

end Go.Proofs.Ybulkdink
