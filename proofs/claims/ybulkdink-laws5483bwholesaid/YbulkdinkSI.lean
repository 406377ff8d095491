import Derived.Test.YbulkdinkT20
namespace Go.Proofs.Ybulkdink
open Go.ChangeShapes Go.WideShapes Go.ChangeAt Go.RowKit
set_option linter.unusedVariables false
set_option linter.unusedSimpArgs false

/-- what hold has done, as the law must find it: the three ways -/
structure Res (base lo : Nat) (w : World) (h : Nat) (vv pv : Value) (vs : List V) (n : Nat) (R : Nat → List V) (G C : Nat → Nat) (v : V) (t0 t1 : Int) (got : Bool) : Prop where
  way : (has vs v = true ∧ got = false ∧ Hist base w h vv pv (put vs v) n G C R t0 t1 ∧ ∀ k, foot h vv pv n G k → k < lo)
    ∨ (has vs v = false ∧ got = false ∧ ∃ i, i < n ∧ has (R i) v = true ∧ (∀ j, j < i → has (R j) v = false) ∧ Hist base w h vv pv vs n G C (upd R i (put (R i) v)) t0 t1 ∧ ∀ k, foot h vv pv n G k → k < lo)
    ∨ (NoCopy vs n R v ∧ got = true ∧ ∃ m T, Hist base w h vv pv vs (m + 1) G C (upd R m T) (if abv vs.length n t0 t1 v then v.s else t0) (if abv vs.length n t0 t1 v then v.t else t1) ∧ m ≤ n ∧ Srt T ∧ T.Perm (v :: cat R m n) ∧ m + 1 = stop (len R) (n0 n R v) (l0 n R v) ∧ ∀ k, foot h vv pv (m + 1) G k → k < lo)

theorem Res.keep {base lo : Nat} {w w' : World} {h : Nat} {vv pv : Value} {vs : List V} {n : Nat} {R : Nat → List V} {G C : Nat → Nat} {v : V} {t0 t1 : Int} {got : Bool} {X : Nat → Prop} (r : Res base lo w h vv pv vs n R G C v t0 t1 got) (k : Keep X w w') (hX : ∀ i, X i → lo ≤ i) : Res base lo w' h vv pv vs n R G C v t0 t1 got := by
  refine ⟨?_⟩
  have nx : ∀ {P : Nat → Prop}, (∀ i, P i → i < lo) → ∀ i, P i → ¬ X i := fun hp i hi hx => by have := hp i hi; have := hX i hx; omega
  rcases r.way with ⟨a, b, c, d⟩ | ⟨a, b, i, c, d, e, f, g⟩ | ⟨a, b, m, T, c, d, e, f, g, i⟩
  · exact .inl ⟨a, b, c.keep k (nx d), d⟩
  · exact .inr (.inl ⟨a, b, i, c, d, e, f.keep k (nx g), g⟩)
  · exact .inr (.inr ⟨a, b, m, T, c.keep k (nx i), d, e, f, g, i⟩)

/-- where the law looks for a copy among its own lists -/
structure SI (base lo : Nat) (w : World) (h : Nat) (vv pv xv : Value) (vs : List V) (n gq gx : Nat) (Gq Cq Gx Cx G C : Nat → Nat) (R : Nat → List V) (B : Nat) (v : V) (bo bt : Nat) (t0 t1 : Int) (got : Bool) : Prop where
  res : Res base lo w h vv pv vs n R G C v t0 t1 got
  xown : w.ownsRow lo 29 6 xv vs.length (cellsOf vs)
  xruns : Runs lo w (.slice (some ⟨gx, 0, none⟩) n n) n Gx Cx R
  xne : ∀ i, i < n → xv.ownBlock ≠ some (Gx i)
  oruns : Runs 0 w (.slice (some ⟨gq, 0, none⟩) n n) n Gq Cq R
  box : Boxed w B v
  bl : B < lo
  good : Good w vs n R
  vok : v.Ok
  vsig : SigIn w v
  otop : w.heap[bo]? = some (.cells #[.int .u64 t0, .int .u64 t1] 35 (0, 0))
  top : w.heap[bt]? = some (.cells #[.int .u64 t0, .int .u64 t1] 35 (0, 0))
  btlo : lo ≤ bt
  gql : gq < lo
  Gql : ∀ i, i < n → Gq i < lo
  bol : bo < lo
  lob : base ≤ lo
  lol : lo ≤ w.heap.size

theorem SI.ext {base lo : Nat} {w w' : World} {h : Nat} {vv pv xv : Value} {vs : List V} {n gq gx : Nat} {Gq Cq Gx Cx G C : Nat → Nat} {R : Nat → List V} {B : Nat} {v : V} {bo bt : Nat} {t0 t1 : Int} {got : Bool}
    (S : SI base lo w h vv pv xv vs n gq gx Gq Cq Gx Cx G C R B v bo bt t0 t1 got) (k : Keep (fun _ => False) w w') : SI base lo w' h vv pv xv vs n gq gx Gq Cq Gx Cx G C R B v bo bt t0 t1 got :=
  ⟨S.res.keep k (fun _ e => e.elim), owns_of_block S.xown fun i hi => k.block i (S.xown.lt i hi).2 id, S.xruns.keep k (fun _ _ e => e) (fun _ _ e => e), S.xne, S.oruns.keep k (fun _ _ e => e) (fun _ _ e => e),
    S.box.keep (Nat.lt_of_lt_of_le S.bl S.lol) k id, S.bl, S.good.world fun u hu => hu.keep k (fun _ _ _ e => e.elim), S.vok, S.vsig.keep k (fun _ _ _ e => e.elim),
    (k.block bo (Array.getElem?_eq_some_iff.1 S.otop).1 id).trans S.otop, (k.block bt (Array.getElem?_eq_some_iff.1 S.top).1 id).trans S.top, S.btlo, S.gql, S.Gql, S.bol, S.lob, Nat.le_trans S.lol k.size⟩

theorem put_mem {xs : List V} {v u : V} (h : u ∈ put xs v) : u = v ∨ u ∈ xs := by
  unfold put at h
  obtain ⟨y, hy, rfl⟩ := List.mem_map.1 h
  split
  · exact .inl rfl
  · exact .inr hy

/-- found among the judged votes -/
theorem SI.doneV {base lo : Nat} {w w' : World} {h : Nat} {vv pv xv : Value} {vs : List V} {n gq gx : Nat} {Gq Cq Gx Cx G C : Nat → Nat} {R : Nat → List V} {B : Nat} {v : V} {bo bt : Nat} {t0 t1 : Int} {got : Bool}
    (S : SI base lo w h vv pv xv vs n gq gx Gq Cq Gx Cx G C R B v bo bt t0 t1 got) (hv : has vs v = true) (k : Keep (fun k => xv.ownBlock = some k) w w') (hx : w'.ownsRow 0 29 6 xv vs.length (cellsOf (put vs v))) :
    got = false ∧ Done base w' h vv pv xv (put vs v) n gx n bt G C Gx Cx R t0 t1 := by
  have hX : ∀ i, xv.ownBlock = some i → lo ≤ i := fun i hi => (S.xown.lt i hi).1
  have sig : ∀ i c fz, xv.ownBlock = some i → w.heap[i]? ≠ some (.cells c 5 fz) := fun i c fz e he => by obtain ⟨c', hb⟩ := owns_type S.xown e; rw [hb] at he; simp at he
  have ty : ∀ i, xv.ownBlock = some i → ∃ c, w.heap[i]? = some (.cells c 29 (0, 0)) := fun i e => owns_type S.xown e
  rcases (S.res.keep k hX).way with ⟨a, b, c, d⟩ | ⟨a, _⟩ | ⟨⟨a, _⟩, _⟩
  · refine ⟨b, ⟨c, by rw [put_length]; exact hx, ?_, ?_, ?_, ?_, by rw [put_length]; have := S.good.vlen; omega, fun i hi => ?_, ?_, S.good.rne⟩⟩
    · have r := S.xruns.keep k (fun i hi e => by
          obtain ⟨c1, h1⟩ := ty i e
          obtain ⟨c2, h2⟩ := owns_type S.xruns.own hi
          rw [h1] at h2; simp at h2) (fun i hi e => S.xne i hi e)
      exact ⟨owns_zero r.own, r.rows, fun _ _ => Nat.zero_le _, r.inj⟩
    · refine (k.block bt (Array.getElem?_eq_some_iff.1 S.top).1 fun e => ?_).trans S.top
      obtain ⟨c1, h1⟩ := ty bt e
      rw [S.top] at h1; simp at h1
    · intro u hu
      rcases put_mem hu with e | e
      · rw [e]; exact S.vsig.keep k sig
      · exact (S.good.vsig u e).keep k sig
    · exact fun i hi u hu => (S.good.rsig i hi u hu).keep k sig
    · have := cat_len_at (R := R) hi; have := S.good.rlen; omega
    · have := cat_len_ge S.good.rne; have := S.good.rlen; omega
  · rw [hv] at a; cases a
  · rw [hv] at a; cases a

/-- found in run i -/
theorem SI.doneR {base lo : Nat} {w w' : World} {h : Nat} {vv pv xv : Value} {vs : List V} {n gq gx : Nat} {Gq Cq Gx Cx G C : Nat → Nat} {R : Nat → List V} {B : Nat} {v : V} {bo bt : Nat} {t0 t1 : Int} {got : Bool}
    (S : SI base lo w h vv pv xv vs n gq gx Gq Cq Gx Cx G C R B v bo bt t0 t1 got) (hv : has vs v = false) (i : Nat) (hi : i < n) (hri : has (R i) v = true) (hrj : ∀ j, j < i → has (R j) v = false) (k : Keep (· = Gx i) w w') (hO : Own w' (Gx i) (Cx i) (put (R i) v)) :
    got = false ∧ Done base w' h vv pv xv vs n gx n bt G C Gx Cx (upd R i (put (R i) v)) t0 t1 := by
  have hX : ∀ j, j = Gx i → lo ≤ j := fun j e => e ▸ S.xruns.gb i hi
  have sig : ∀ j c fz, j = Gx i → w.heap[j]? ≠ some (.cells c 5 fz) := fun j c fz e he => by subst e; exact (S.xruns.rows i hi).notSig _ _ he
  obtain ⟨cg, hg, _⟩ := S.xruns.rows i hi
  have hne : ∀ j, j < n → j ≠ i → Gx j ≠ Gx i := fun j hj hji => by
    rcases Nat.lt_or_gt_of_ne hji with h1 | h1
    · exact S.xruns.inj j i h1 hi
    · exact Ne.symm (S.xruns.inj i j h1 hj)
  rcases (S.res.keep k hX).way with ⟨a, b, c, d⟩ | ⟨a, b, i', c, d, e, f, g⟩ | ⟨⟨_, a⟩, _⟩
  · rw [hv] at a; cases a
  · have ei : i' = i := by
      rcases Nat.lt_trichotomy i' i with h1 | h1 | h1
      · rw [hrj i' h1] at d; cases d
      · exact h1
      · rw [e i h1] at hri; cases hri
    subst ei
    refine ⟨b, ⟨f, owns_zero (owns_of_block S.xown fun j hj => k.block j (S.xown.lt j hj).2 fun e => S.xne i' hi (e ▸ hj)), ⟨?_, ?_, fun _ _ => Nat.zero_le _, S.xruns.inj⟩, ?_, fun u hu => (S.good.vsig u hu).keep k sig, ?_, by have := S.good.vlen; omega, ?_, ?_, ?_⟩⟩
    · have e : ents Gx Cx (upd R i' (put (R i') v)) n = ents Gx Cx R n := ents_congr fun j hj => by
        by_cases e : j = i'
        · subst e; simp [ent, upd, put_length]
        · simp [ent, upd, e]
      rw [e]
      refine owns_zero (owns_of_block S.xruns.own fun j hj => k.block j (S.xruns.own.lt j hj).2 fun e => ?_)
      obtain ⟨c2, h2⟩ := owns_type S.xruns.own hj
      rw [e, hg] at h2; simp at h2
    · intro j hj
      by_cases e : j = i'
      · subst e; rw [upd_same]; exact hO
      · rw [upd_ne _ _ _ _ e]; exact (S.xruns.rows j hj).keep k (hne j hj e)
    · refine (k.block bt (Array.getElem?_eq_some_iff.1 S.top).1 fun e => ?_).trans S.top
      have := S.top
      rw [e, hg] at this; simp at this
    · intro j hj u hu
      by_cases e : j = i'
      · subst e
        rw [upd_same] at hu
        rcases put_mem hu with e | e
        · rw [e]; exact S.vsig.keep k sig
        · exact (S.good.rsig j hj u e).keep k sig
      · rw [upd_ne _ _ _ _ e] at hu
        exact (S.good.rsig j hj u hu).keep k sig
    · intro j hj
      have h1 := cat_len_at (R := R) hj
      have := S.good.rlen
      by_cases e : j = i'
      · subst e; rw [upd_same, put_length]; omega
      · rw [upd_ne _ _ _ _ e]; omega
    · have := cat_len_ge S.good.rne; have := S.good.rlen; omega
    · intro j hj
      have h1 := S.good.rne j hj
      by_cases e : j = i'
      · subst e; rw [upd_same, put_length]; exact h1
      · rw [upd_ne _ _ _ _ e]; exact h1
  · rw [a i hi] at hri; cases hri

/-- found nowhere -/
theorem SI.none {base lo : Nat} {w : World} {h : Nat} {vv pv xv : Value} {vs : List V} {n gq gx : Nat} {Gq Cq Gx Cx G C : Nat → Nat} {R : Nat → List V} {B : Nat} {v : V} {bo bt : Nat} {t0 t1 : Int} {got : Bool}
    (S : SI base lo w h vv pv xv vs n gq gx Gq Cq Gx Cx G C R B v bo bt t0 t1 got) (hv : has vs v = false) (hr : ∀ j, j < n → has (R j) v = false) :
    got = true ∧ ∃ m T, EI base w h vv pv xv vs n gq Gq Cq R B v G C T m (if abv vs.length n t0 t1 v then v.s else t0) (if abv vs.length n t0 t1 v then v.t else t1) := by
  rcases S.res.way with ⟨a, _⟩ | ⟨a, b, i, c, d, _⟩ | ⟨a, b, m, T, c, d, e, f, g, i⟩
  · rw [hv] at a; cases a
  · rw [hr i c] at d; cases d
  · exact ⟨b, m, T, c, owns_zero S.xown, S.oruns, S.box, Nat.lt_of_lt_of_le S.bl S.lol, S.good, S.vok, S.vsig, fun i hi => has_false.1 (hr i hi), d, e, f, g, Nat.le_trans S.lob S.lol⟩


end Go.Proofs.Ybulkdink
