/- The plain law of LawS5485AWhole: a map as read, beside a list of distinct keys and the list of their values. -/
import Derived.Maps.OwnSet
namespace Go.Proofs.YbulkdiomFmt.Plain
open Go

/-- what the key s reads as -/
abbrev kl (s : ByteArray) : Lit := .string s.data.toList
abbrev bl (b : Bool) : DataW Unit := .lit (.bool b)

theorem kl_inj {s t : ByteArray} (h : kl s = kl t) : s = t := by
  have h1 : s.data.toList = t.data.toList := by injection h
  have h2 : s.data = t.data := Array.toList_inj.1 h1
  cases s; cases t; simp_all

theorem isKey (s : ByteArray) : WideAt.IsKeyLit (kl s) := trivial

structure Held (D : DataW Unit) (ks : List ByteArray) (vs : List Bool) : Prop where
  tidy : Maps.Tidy D
  len : vs.length = ks.length
  size : Maps.size D = ks.length
  has : ∀ s : ByteArray, Maps.has D (kl s) = true ↔ s ∈ ks
  val : ∀ (i : Nat) (s : ByteArray) (b : Bool), ks[i]? = some s → vs[i]? = some b → D.atKey (kl s) (bl false) = bl b
  nodup : ks.Nodup

theorem Inv_empty : Held (.map []) [] [] where
  tidy := Maps.tidy_empty
  len := rfl
  size := rfl
  has := by intro s; simp [Maps.has]
  val := by intro i s b h; simp at h
  nodup := List.nodup_nil

theorem Held.new {D : DataW Unit} {ks : List ByteArray} {vs : List Bool} (h : Held D ks vs) {s : ByteArray} (hs : s ∉ ks) (b : Bool) : Held (D.put (kl s) (bl b)) (ks ++ [s]) (vs ++ [b]) where
  tidy := h.tidy.put (isKey s) _
  len := by simp [h.len]
  size := by
    have h0 : Maps.has D (kl s) = false := by
      cases e : Maps.has D (kl s) with
      | false => rfl
      | true => exact absurd ((h.has s).1 e) hs
    rw [Maps.size_put h.tidy, h0]
    simp [h.size]
  has := by
    intro t
    by_cases e : t = s
    · subst e
      rw [Maps.has_put_same h.tidy.isMap (isKey _)]
      simp
    · rw [Maps.has_put_other (fun x => e (kl_inj x)), h.has]
      simp [e]
  val := by
    intro i t c h1 h2
    by_cases hi : i < ks.length
    · rw [List.getElem?_append_left hi] at h1
      rw [List.getElem?_append_left (by rw [h.len]; exact hi)] at h2
      have hne : t ≠ s := fun e => hs (by rw [← e]; exact List.mem_of_getElem? h1)
      rw [Maps.atKey_put_other (fun x => hne (kl_inj x))]
      exact h.val i t c h1 h2
    · have e : i = ks.length := by
        have := (List.getElem?_eq_some_iff.1 h1).1
        simp at this
        omega
      subst e
      simp at h1
      have h2' : (vs ++ [b])[vs.length]? = some c := by rw [h.len]; exact h2
      simp at h2'
      subst h1; subst h2'
      exact Maps.atKey_put_same h.tidy.isMap (isKey _) _ _
  nodup := by
    rw [List.nodup_append]
    refine ⟨h.nodup, by simp, ?_⟩
    intro x hx y hy e
    simp at hy
    subst hy; subst e
    exact hs hx

theorem Held.old {D : DataW Unit} {ks : List ByteArray} {vs : List Bool} (h : Held D ks vs) {s : ByteArray} {j : Nat} (hj : ks[j]? = some s) (b : Bool) : Held (D.put (kl s) (bl b)) ks (vs.set j b) where
  tidy := h.tidy.put (isKey s) _
  len := by simp [h.len]
  size := by
    have h0 : Maps.has D (kl s) = true := (h.has s).2 (List.mem_of_getElem? hj)
    rw [Maps.size_put h.tidy, h0]
    simp [h.size]
  has := by
    intro t
    by_cases e : t = s
    · subst e
      rw [Maps.has_put_same h.tidy.isMap (isKey _)]
      simp [List.mem_of_getElem? hj]
    · rw [Maps.has_put_other (fun x => e (kl_inj x)), h.has]
  val := by
    intro i t c h1 h2
    by_cases hi : i = j
    · subst hi
      have e : t = s := by rw [hj] at h1; simpa using h1.symm
      subst e
      have hl : i < vs.length := by
        have := (List.getElem?_eq_some_iff.1 h1).1
        rw [h.len]; exact this
      simp [hl] at h2
      subst h2
      exact Maps.atKey_put_same h.tidy.isMap (isKey _) _ _
    · rw [List.getElem?_set_ne (fun e => hi e.symm)] at h2
      have hne : t ≠ s := by
        intro e
        subst e
        have l1 := (List.getElem?_eq_some_iff.1 h1).1
        have l2 := (List.getElem?_eq_some_iff.1 hj).1
        have e1 := (List.getElem?_eq_some_iff.1 h1).2
        have e2 := (List.getElem?_eq_some_iff.1 hj).2
        exact hi ((List.getElem_inj h.nodup).1 (e1.trans e2.symm))
      rw [Maps.atKey_put_other (fun x => hne (kl_inj x))]
      exact h.val i t c h1 h2
  nodup := h.nodup

theorem Held.absent {D : DataW Unit} {ks : List ByteArray} {vs : List Bool} (h : Held D ks vs) {s : ByteArray} (hs : s ∉ ks) : D.atKey (kl s) (bl false) = bl false := by
  refine Maps.atKey_of_not_has ?_ _
  cases e : Maps.has D (kl s) with
  | false => rfl
  | true => exact absurd ((h.has s).1 e) hs

end Go.Proofs.YbulkdiomFmt.Plain
