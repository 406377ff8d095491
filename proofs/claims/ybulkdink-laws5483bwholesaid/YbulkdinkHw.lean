import Derived.Test.YbulkdinkHp
namespace Go.Proofs.Ybulkdink
open Go.ChangeShapes Go.WideShapes Go.ChangeAt Go.RowKit
set_option linter.unusedVariables false

/-- what holds of the votes of a history -/
structure Good (w : World) (vs : List V) (n : Nat) (R : Nat → List V) : Prop where
  vsrt : Srt vs
  vok : ∀ u ∈ vs, u.Ok
  vsig : ∀ u ∈ vs, SigIn w u
  vlen : vs.length ≤ 1000
  rsrt : ∀ i, i < n → Srt (R i)
  rok : ∀ i, i < n → ∀ u ∈ R i, u.Ok
  rsig : ∀ i, i < n → ∀ u ∈ R i, SigIn w u
  rne : ∀ i, i < n → 0 < (R i).length
  rdis : ∀ i j, i < j → j < n → ∀ a ∈ R i, ∀ b ∈ R j, cmpV a b ≠ 0
  rlen : (cat R 0 n).length ≤ 100000

theorem cat_len_ge {R : Nat → List V} {n : Nat} (h : ∀ i, i < n → 0 < (R i).length) : n ≤ (cat R 0 n).length := by
  induction n with
  | zero => omega
  | succ n ih =>
    rw [cat_back R 0 n (by omega), List.length_append]
    have := ih fun i hi => h i (by omega)
    have := h n (by omega)
    omega

theorem cat_len_at {R : Nat → List V} {n i : Nat} (h : i < n) : (R i).length ≤ (cat R 0 n).length := by
  induction n with
  | zero => omega
  | succ n ih =>
    rw [cat_back R 0 n (by omega), List.length_append]
    by_cases e : i = n
    · subst e; omega
    · have := ih (by omega); omega

theorem SigIn.extE {w w' : World} {v : V} (h : SigIn w v) (hE : Ext w w') : SigIn w' v := by
  obtain ⟨k, os, rfl⟩ := hE
  exact h.ext k os

theorem Good.world {w w' : World} {vs : List V} {n : Nat} {R : Nat → List V} (g : Good w vs n R) (hs : ∀ u, SigIn w u → SigIn w' u) : Good w' vs n R :=
  ⟨g.vsrt, g.vok, fun u hu => hs u (g.vsig u hu), g.vlen, g.rsrt, g.rok, fun i hi u hu => hs u (g.rsig i hi u hu), g.rne, g.rdis, g.rlen⟩

theorem has_false {xs : List V} {v : V} : has xs v = false ↔ ∀ u ∈ xs, cmpV u v ≠ 0 := by
  unfold has
  rw [List.any_eq_false]
  simp

theorem put_id {xs : List V} {v : V} (h : has xs v = false) : put xs v = xs := by
  rw [has_false] at h
  exact (put_none fun i hi => h _ (nth_mem hi)).1

theorem owns_form {w : World} {base e size n : Nat} {v : Value} {xs : List Value} (h : w.ownsRow base e size v n xs) : ∃ a c, v = .slice a n c := by
  rcases h.2 with ⟨rfl, rfl⟩ | ⟨g, cap, cur, rfl, _⟩
  · exact ⟨_, _, rfl⟩
  · exact ⟨_, _, rfl⟩

theorem owns_zero {w : World} {base e size n : Nat} {v : Value} {xs : List Value} (h : w.ownsRow base e size v n xs) : w.ownsRow 0 e size v n xs := by
  refine ⟨h.1, ?_⟩
  rcases h.2 with h1 | ⟨g, cap, cur, h1, _, r⟩
  · exact .inl h1
  · exact .inr ⟨g, cap, cur, h1, Nat.zero_le _, r⟩

section
variable {base : Nat} {w : World} {h : Nat} {vv pv : Value} {vs : List V} {n m : Nat} {G C : Nat → Nat} {R : Nat → List V} {t0 t1 : Int} {v : V}

theorem stand_votes (H : Hist base w h vv pv vs n G C R t0 t1) (g : Good w vs n R) (hv : v.Ok) (hs : SigIn w v) :
    Calls Yba.prog 13 #[vv, v.val] w fun e w' => e = .returned (.bool (has vs v)) ∧ Hist base w' h vv pv (put vs v) n G C R t0 t1 ∧ Keep (fun k => vv.ownBlock = some k) w w' := by
  by_cases h0 : vs.length = 0
  · obtain ⟨a, c, e⟩ := owns_form H.vown
    have hnil : vs = [] := List.eq_nil_of_length_eq_zero h0
    subst hnil
    subst e
    refine (standIn_none a c v w).mono fun e w' ⟨he, hE⟩ => ⟨by rw [he]; rfl, ?_, hE.keep _⟩
    exact H.keep (hE.keep (fun _ => False)) (fun _ _ e => e)
  · obtain ⟨gv, cv, rfl, _, _⟩ := H.vown.form (by omega)
    have hO : Own w gv cv vs := (own_of_owns (owns_zero H.vown)).2
    refine (standIn_any gv cv vs v w (by omega) (by have := g.vlen; omega) hO g.vok hv g.vsrt g.vsig hs).mono fun e w' ⟨he, hO', hK⟩ => ⟨he, H.putVotes v hO' hK, hK.weak fun k _ e => by rw [e]; rfl⟩

theorem upd_self {α : Type} (f : Nat → α) (i : Nat) : upd f i (f i) = f := by
  funext j
  unfold upd
  split
  · rename_i e; rw [e]
  · rfl

theorem stand_run (H : Hist base w h vv pv vs n G C R t0 t1) (g : Good w vs n R) (hv : v.Ok) (hs : SigIn w v) (i : Nat) (hi : i < n) :
    Calls Yba.prog 13 #[ent G C R i, v.val] w fun e w' => e = .returned (.bool (has (R i) v)) ∧ Hist base w' h vv pv vs n G C (upd R i (put (R i) v)) t0 t1 ∧ Keep (· = G i) w w' := by
  refine (standIn_any (G i) (C i) (R i) v w (g.rne i hi) (by have := g.rlen; have := cat_len_at (R := R) hi; omega) (H.rows i hi) (g.rok i hi) hv (g.rsrt i hi) (g.rsig i hi) hs).mono fun e w' ⟨he, hO', hK⟩ => ⟨he, H.putRun v i hi hO' hK, hK⟩

end
end Go.Proofs.Ybulkdink
