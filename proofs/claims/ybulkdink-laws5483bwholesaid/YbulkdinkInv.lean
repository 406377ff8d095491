import Derived.Test.YbulkdinkT8
namespace Go.Proofs.Ybulkdink
open Go.ChangeShapes Go.WideShapes Go.ChangeAt Go.RowKit
set_option linter.unusedVariables false
set_option linter.unusedSimpArgs false

def sub1 (v u : V) : V := if cmpV u v = 0 ∧ sc v u < 0 then v else u
theorem put_map (xs : List V) (v : V) : put xs v = xs.map (sub1 v) := rfl
theorem sub1_key (v u : V) : (sub1 v u).s = u.s ∧ (sub1 v u).t = u.t ∧ (sub1 v u).src = u.src ∧ (sub1 v u).tgt = u.tgt := by
  unfold sub1
  split
  · rename_i h
    have := (cmpV_zero u v).1 h.1
    exact ⟨this.1.symm, this.2.1.symm, this.2.2.1.symm, this.2.2.2.symm⟩
  · exact ⟨rfl, rfl, rfl, rfl⟩
theorem cmpV_sub (v a b : V) : cmpV (sub1 v a) (sub1 v b) = cmpV a b := by
  obtain ⟨h1, h2, h3, h4⟩ := sub1_key v a
  obtain ⟨k1, k2, k3, k4⟩ := sub1_key v b
  unfold cmpV
  rw [h1, h2, h3, h4, k1, k2, k3, k4]
theorem cmpV_sub_r (v a b : V) : cmpV a (sub1 v b) = cmpV a b := by
  obtain ⟨k1, k2, k3, k4⟩ := sub1_key v b
  unfold cmpV
  rw [k1, k2, k3, k4]
theorem cmpV_sub_l (v a b : V) : cmpV (sub1 v a) b = cmpV a b := by
  obtain ⟨k1, k2, k3, k4⟩ := sub1_key v a
  unfold cmpV
  rw [k1, k2, k3, k4]
theorem srt_put {xs : List V} (h : Srt xs) (v : V) : Srt (put xs v) := by
  unfold Srt
  rw [put_map, List.pairwise_map]
  simp only [cmpV_sub]
  exact h
theorem put_memk {xs : List V} {v u : V} (h : u ∈ put xs v) : ∃ y ∈ xs, u = sub1 v y := by
  rw [put_map] at h
  obtain ⟨y, hy, rfl⟩ := List.mem_map.1 h
  exact ⟨y, hy, rfl⟩
theorem under_sub {t0 t1 : Int} {v y : V} (h : under t0 t1 y) : under t0 t1 (sub1 v y) := by
  obtain ⟨h1, h2, _⟩ := sub1_key v y
  unfold under at *
  rw [h1, h2]
  exact h

theorem cat_len_same {R S : Nat → List V} {n : Nat} (h : ∀ i, i < n → (R i).length = (S i).length) : (cat R 0 n).length = (cat S 0 n).length := by
  induction n with
  | zero => simp [cat]
  | succ n ih =>
    rw [cat_back R 0 n (by omega), cat_back S 0 n (by omega), List.length_append, List.length_append, ih fun i hi => h i (by omega), h n (by omega)]

theorem HI.held {base : Nat} {w w' : World} {h : Nat} {vv pv : Value} {vs : List V} {n : Nat} {G C : Nat → Nat} {R : Nat → List V} {t0 t1 : Int} {v : V} {e : Ending} (H : HI base w h vv pv vs n G C R t0 t1) (hok : v.Ok) (hs : SigIn w v) (hlen : (cat R 0 n).length + 1 ≤ 100000)
    (hp : HoldPost base w h vv pv vs n G C R t0 t1 v e w') :
    (∃ b : Bool, e = .returned (.bool b)) ∧ Keep (fun k => base ≤ k) w w' ∧ ∃ pv' vs' n' G' C' R' t0' t1', HI base w' h vv pv' vs' n' G' C' R' t0' t1' ∧ (cat R' 0 n').length ≤ (cat R 0 n).length + 1 := by
  obtain ⟨hK, hw⟩ := hp
  have hsig : ∀ u, SigIn w u → SigIn w' u := fun u hu => hu.keep hK H.hist.notSig
  have hsv := hsig v hs
  have subsig : ∀ {y : V}, SigIn w y → SigIn w' (sub1 v y) := fun {y} hy => by
    unfold sub1
    split
    · exact hsv
    · exact hsig y hy
  have subok : ∀ {y : V}, y.Ok → (sub1 v y).Ok := fun {y} hy => by
    unfold sub1
    split
    · exact hok
    · exact hy
  have g := H.good
  have bb' : base ≤ w'.heap.size := Nat.le_trans H.bb hK.size
  refine ⟨?_, hK.weak fun k _ hf => H.hist.ge k hf, ?_⟩
  · rcases hw with ⟨_, _, c, _⟩ | ⟨_, _, c, _⟩ | ⟨_, c, _⟩
    · exact ⟨_, c⟩
    · exact ⟨_, c⟩
    · exact ⟨_, c⟩
  rcases hw with ⟨a, b, c, hH⟩ | ⟨a, b, c, i, hi, hri, hrj, hH⟩ | ⟨a, c, pv', m, G', C', T, hH, hmn, hS, hP, hst⟩
  · refine ⟨pv, put vs v, n, G, C, R, t0, t1, ⟨hH, ⟨srt_put g.vsrt v, fun u hu => ?_, fun u hu => ?_, by rw [put_length]; exact g.vlen, g.rsrt, g.rok, fun i hi u hu => hsig u (g.rsig i hi u hu), g.rne, g.rdis, g.rlen⟩, ⟨fun u hu => ?_, H.topi.2⟩, bb'⟩, by omega⟩
    · obtain ⟨y, hy, rfl⟩ := put_memk hu; exact subok (g.vok y hy)
    · obtain ⟨y, hy, rfl⟩ := put_memk hu; exact subsig (g.vsig y hy)
    · obtain ⟨y, hy, rfl⟩ := put_memk hu; exact under_sub (H.topi.1 y hy)
  · have ln : ∀ j, (upd R i (put (R i) v) j).length = (R j).length := fun j => by
      by_cases e : j = i
      · subst e; rw [upd_same, put_length]
      · rw [upd_ne _ _ _ _ e]
    have lc : (cat (upd R i (put (R i) v)) 0 n).length = (cat R 0 n).length := cat_len_same fun j _ => ln j
    have mem : ∀ j u, u ∈ upd R i (put (R i) v) j → ∃ y ∈ R j, (u = y ∨ u = sub1 v y) := fun j u hu => by
      by_cases e : j = i
      · subst e
        rw [upd_same] at hu
        obtain ⟨y, hy, rfl⟩ := put_memk hu
        exact ⟨y, hy, .inr rfl⟩
      · rw [upd_ne _ _ _ _ e] at hu
        exact ⟨u, hu, .inl rfl⟩
    refine ⟨pv, vs, n, G, C, upd R i (put (R i) v), t0, t1, ⟨hH, ⟨g.vsrt, g.vok, fun u hu => hsig u (g.vsig u hu), g.vlen, fun j hj => ?_, fun j hj u hu => ?_, fun j hj u hu => ?_, fun j hj => by rw [ln]; exact g.rne j hj, fun j k hjk hk x hx y hy => ?_, by rw [lc]; exact g.rlen⟩, ⟨H.topi.1, fun j hj u hu => ?_⟩, bb'⟩, by rw [lc]; omega⟩
    · by_cases e : j = i
      · subst e; rw [upd_same]; exact srt_put (g.rsrt j hj) v
      · rw [upd_ne _ _ _ _ e]; exact g.rsrt j hj
    · obtain ⟨y, hy, rfl | rfl⟩ := mem j u hu
      · exact g.rok j hj _ hy
      · exact subok (g.rok j hj y hy)
    · obtain ⟨y, hy, rfl | rfl⟩ := mem j u hu
      · exact hsig _ (g.rsig j hj _ hy)
      · exact subsig (g.rsig j hj y hy)
    · obtain ⟨x', hx', ex⟩ := mem j x hx
      obtain ⟨y', hy', ey⟩ := mem k y hy
      have hd := g.rdis j k hjk hk x' hx' y' hy'
      rcases ex with rfl | rfl <;> rcases ey with rfl | rfl
      · exact hd
      · rw [cmpV_sub_r]; exact hd
      · rw [cmpV_sub_l]; exact hd
      · rw [cmpV_sub]; exact hd
    · obtain ⟨y, hy, rfl | rfl⟩ := mem j u hu
      · exact H.topi.2 j hj _ hy
      · exact under_sub (H.topi.2 j hj y hy)
  · have hN : NoCopy vs n R v := by
      cases hA : abv vs.length n t0 t1 v with
      | true => exact above_none H.topi hA
      | false => exact a hA
    have memT : ∀ u ∈ T, u = v ∨ ∃ i, m ≤ i ∧ i < n ∧ u ∈ R i := fun u hu => by
      rcases List.mem_cons.1 (hP.mem_iff.1 hu) with e | e
      · exact .inl e
      · exact .inr (cat_mem.1 e)
    have lc : (cat (upd R m T) 0 (m + 1)).length = (cat R 0 n).length + 1 := by
      rw [cat_back _ 0 m (by omega), upd_same, cat_congr (S := R) (fun i _ hi => upd_ne _ _ _ _ (by omega)), List.length_append, hP.length_eq, cat_split R m n hmn, List.length_append, List.length_cons]
      omega
    have utop : ∀ u, (u ∈ vs ∨ ∃ i, i < n ∧ u ∈ R i) → under (if abv vs.length n t0 t1 v then v.s else t0) (if abv vs.length n t0 t1 v then v.t else t1) u := fun u hu => by
      have hun : under t0 t1 u := by
        rcases hu with h1 | ⟨i, hi, h1⟩
        · exact H.topi.1 u h1
        · exact H.topi.2 i hi u h1
      cases hA : abv vs.length n t0 t1 v with
      | false => simpa using hun
      | true =>
        have hne : ¬ (vs.length = 0 ∧ n = 0) := by
          rcases hu with h1 | ⟨i, hi, h1⟩
          · have : 0 < vs.length := List.length_pos_of_mem h1
            omega
          · omega
        simp only [abv, Bool.or_eq_true, Bool.and_eq_true, decide_eq_true_eq] at hA
        simp only [if_true]
        unfold under at *
        omega
    have vtop : under (if abv vs.length n t0 t1 v then v.s else t0) (if abv vs.length n t0 t1 v then v.t else t1) v := by
      cases hA : abv vs.length n t0 t1 v with
      | true => simp [under]
      | false =>
        simp only [abv, Bool.or_eq_false_iff, Bool.and_eq_false_iff, decide_eq_false_iff_not] at hA
        simp only [Bool.false_eq_true, if_false]
        unfold under
        omega
    refine ⟨pv', vs, m + 1, G', C', upd R m T, _, _, ⟨hH, ⟨g.vsrt, g.vok, fun u hu => hsig u (g.vsig u hu), g.vlen, fun j hj => ?_, fun j hj u hu => ?_, fun j hj u hu => ?_, fun j hj => ?_, fun j k hjk hk x hx y hy => ?_, by rw [lc]; exact hlen⟩, ⟨fun u hu => utop u (.inl hu), fun j hj u hu => ?_⟩, bb'⟩, by rw [lc]; omega⟩
    · by_cases e : j = m
      · subst e; rw [upd_same]; exact hS
      · rw [upd_ne _ _ _ _ e]; exact g.rsrt j (by omega)
    · by_cases e : j = m
      · subst e
        rw [upd_same] at hu
        rcases memT u hu with e | ⟨i, _, hi, hu⟩
        · rw [e]; exact hok
        · exact g.rok i hi u hu
      · rw [upd_ne _ _ _ _ e] at hu; exact g.rok j (by omega) u hu
    · by_cases e : j = m
      · subst e
        rw [upd_same] at hu
        rcases memT u hu with e | ⟨i, _, hi, hu⟩
        · rw [e]; exact hsv
        · exact hsig u (g.rsig i hi u hu)
      · rw [upd_ne _ _ _ _ e] at hu; exact hsig u (g.rsig j (by omega) u hu)
    · by_cases e : j = m
      · subst e; rw [upd_same, hP.length_eq]; simp
      · rw [upd_ne _ _ _ _ e]; exact g.rne j (by omega)
    · rw [upd_ne _ _ _ _ (by omega)] at hx
      by_cases e : k = m
      · subst e
        rw [upd_same] at hy
        rcases memT y hy with e | ⟨i, h1, hi, hy⟩
        · rw [e]; exact has_false.1 (hN.2 j (by omega)) x hx
        · exact g.rdis j i (by omega) hi x hx y hy
      · rw [upd_ne _ _ _ _ e] at hy
        exact g.rdis j k hjk (by omega) x hx y hy
    · by_cases e : j = m
      · subst e
        rw [upd_same] at hu
        rcases memT u hu with e | ⟨i, _, hi, hu⟩
        · rw [e]; exact vtop
        · exact utop u (.inr ⟨i, hi, hu⟩)
      · rw [upd_ne _ _ _ _ e] at hu
        exact utop u (.inr ⟨j, by omega, hu⟩)

end Go.Proofs.Ybulkdink
