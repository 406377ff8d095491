import Derived.Test.YbulkdinkHw
namespace Go.Proofs.Ybulkdink
open Go.ChangeShapes Go.WideShapes Go.ChangeAt Go.RowKit
set_option linter.unusedVariables false

/-! A drawing region whose LAST operation writes what earlier ones read: it waits for all the others, so the condition S is asked behind every operation but that one. -/
section
variable {P : Program} {md : Region.Mode} {ops : Array Oper} {Q : Exit → Act → World → Prop} {S : World → Prop} {L : Nat}

def Ways (P : Program) (md : Region.Mode) (ops : Array Oper) (Q : Exit → Act → World → Prop) (S : World → Prop) (L : Nat) : Nat → Array Bool → Act → World → Prop
  | 0, ls, a, w => Region.ready md ops ls = [] ∧ Q .normal a w
  | f + 1, ls, a, w => (Region.ready md ops ls = [] → Q .normal a w) ∧ ∀ k ∈ Region.ready md ops ls, wpOp P ops Q k (fun a' w' => (k ≠ L → S w') ∧ Ways P md ops Q S L f (ls.setIfInBounds k true) a' w') a w

theorem Ways.any : ∀ (f : Nat) (ls : Array Bool) (a : Act) (w : World), Ways P md ops Q S L f ls a w → wpAny P md ops Q f ls a w
  | 0, _, _, _, h => h
  | f + 1, _, _, _, h => ⟨h.1, fun k hk => wpOp_mono (fun a' w' h' => Ways.any f _ a' w' h'.2) (h.2 k hk)⟩

/-- op number L waits for every other -/
def lastB (md : Region.Mode) (ops : Array Oper) (L : Nat) : Bool := (List.range ops.size).all fun k => k == L || match ops[L]? with
  | some o => o.after.any fun e => Region.binds md e && e.on == k
  | none => false

/-- a reading operation may be carried out ahead of the others -/
theorem Ways.first {k : Nat} {o : Oper} {v : Value} (hL : lastB md ops L = true) (hk : ops[k]? = some o) (hkL : k ≠ L) (hsel : Region.noSelect ops = true) (hQ : ∀ c a w, Q (.panic c) (a.put o.dst v) w → Q (.panic c) a w) :
    ∀ (f : Nat) (ls : Array Bool) (a : Act) (w : World), (∀ j oj, ops[j]? = some oj → j ≠ k → ls.getD j true = false → (∀ e ∈ oj.after, Region.binds md e = true → e.on ≠ k) → o.apart ops oj = true) →
      k ∈ Region.ready md ops ls → YieldsIf P ops S o v a → S w → Ways P md ops Q S L f (ls.setIfInBounds k true) (a.put o.dst v) w → Ways P md ops Q S L (f + 1) ls a w := by
  have hsz : k < ops.size := (Array.getElem?_eq_some_iff.1 hk).1
  have wait : ∀ (ls : Array Bool) (j : Nat), k ∈ Region.ready md ops ls → j ∈ Region.ready md ops ls → ∀ oj, ops[j]? = some oj → ∀ e ∈ oj.after, Region.binds md e = true → e.on ≠ k := fun ls j h1 h2 oj hoj e he hb hek => by
    obtain ⟨_, o2, ho2, hall⟩ := mem_ready.1 h2
    rw [hoj] at ho2
    cases ho2
    have h3 := hall e he hb
    have h4 := (mem_ready.1 h1).1
    rw [hek] at h3
    by_cases hlt : k < ls.size
    · simp [hlt] at h3 h4
      rw [h4] at h3; cases h3
    · simp [Array.getElem?_eq_none (Nat.le_of_not_lt hlt)] at h3
  have notL : ∀ (ls : Array Bool) (j : Nat), k ∈ Region.ready md ops ls → j ∈ Region.ready md ops ls → j ≠ L := fun ls j h1 h2 e => by
    subst e
    obtain ⟨_, oj, hoj, _⟩ := mem_ready.1 h2
    have h5 := List.all_eq_true.1 hL k (by simpa using hsz)
    simp only [hoj, Bool.or_eq_true, beq_iff_eq, hkL, false_or, Array.any_eq_true', Bool.and_eq_true] at h5
    obtain ⟨e, he, hb, hon⟩ := h5
    exact wait ls j h1 h2 oj hoj e he hb hon
  intro f
  induction f with
  | zero =>
    intro ls a w hfree hr hy hS hW
    refine ⟨fun h0 => absurd (h0 ▸ hr) (by simp), fun j hj => ?_⟩
    by_cases hjk : j = k
    · subst hjk
      exact hy.wpOp hk hS ⟨fun _ => hS, hW⟩
    · exact absurd (hW.1 ▸ ready_mono hj hjk) (by simp)
  | succ f ih =>
    intro ls a w hfree hr hy hS hW
    refine ⟨fun h0 => absurd (h0 ▸ hr) (by simp), fun j hj => ?_⟩
    by_cases hjk : j = k
    · subst hjk
      exact hy.wpOp hk hS ⟨fun _ => hS, hW⟩
    · obtain ⟨hun, oj, hoj, _⟩ := mem_ready.1 hj
      have hno := wait ls j hr hj oj hoj
      have h1 := wpOp_putIf hoj (hfree j oj hoj hjk hun hno) (fun cs b => Region.noSelect_spec hsel k o cs b hk) (fun cs b => Region.noSelect_spec hsel j oj cs b hoj) hQ hy (hW.2 j (ready_mono hj hjk))
      refine wpOp_mono (fun a' w' h2 => ?_) h1
      obtain ⟨h3, h4, h5⟩ := h2
      have hS' := h4 (notL ls j hr hj)
      refine ⟨fun _ => hS', ih (ls.setIfInBounds j true) a' w' (fun i oi hi hik hun' hno' => hfree i oi hi hik ?_ hno') (ready_mono hr (Ne.symm hjk)) h3 hS' ?_⟩
      · by_cases hji : j = i
        · subst hji; exact hun
        · rw [getD_set_ne true hji] at hun'; exact hun'
      · rw [Array.setIfInBounds_comm _ _ hjk]; exact h5

/-- the reading operations of the beginning, in the text's order -/
def Reads (P : Program) (ops : Array Oper) (S : World → Prop) (R : Act → Prop) : List Oper → Act → Prop
  | [], a => R a
  | o :: l, a => ∃ v, YieldsIf P ops S o v a ∧ Reads P ops S R l (a.put o.dst v)

theorem Reads.cons {o : Oper} {l : List Oper} {a : Act} {v : Value} {R : Act → Prop} (hw : Region.wanted o (yielded ops a.tmps) = true) (hy : ∀ w, S w → (execOp a.eval o).run P w = .ok (.value v) w) (h : Reads P ops S R l (a.put o.dst v)) : Reads P ops S R (o :: l) a := ⟨v, .inl ⟨hw, hy⟩, h⟩
theorem Reads.nil {a : Act} {R : Act → Prop} (h : R a) : Reads P ops S R [] a := h

/-- the operations that read, at the beginning: which are listed -/
def headB (md : Region.Mode) (ops : Array Oper) (L : Nat) : Nat → Nat → Array Bool → Bool
  | 0, _, _ => true
  | n + 1, k, ls => (k != L) && Region.free md ops ls k && (Region.ready md ops ls).contains k && headB md ops L n (k + 1) (ls.setIfInBounds k true)
def listedTo : Nat → Nat → Array Bool → Array Bool
  | 0, _, ls => ls
  | n + 1, k, ls => listedTo n (k + 1) (ls.setIfInBounds k true)

theorem Ways.head (hL : lastB md ops L = true) (hsel : Region.noSelect ops = true) (hQ : ∀ c (a : Act) d v w, Q (.panic c) (a.put d v) w → Q (.panic c) a w) {f : Nat} {w : World} (hS : S w) :
    ∀ (l : List Oper) (k : Nat) (ls : Array Bool) (a : Act), (∀ j, j < l.length → ops[k + j]? = l[j]?) → headB md ops L l.length k ls = true →
      Reads P ops S (fun a' => Ways P md ops Q S L f (listedTo l.length k ls) a' w) l a → Ways P md ops Q S L (f + l.length) ls a w
  | [], k, ls, a, _, _, h => h
  | o :: l, k, ls, a, hl, hB, ⟨v, hy, h⟩ => by
    simp only [List.length_cons, headB, Bool.and_eq_true, bne_iff_ne, ne_eq] at hB
    obtain ⟨⟨⟨h1, h2⟩, h3⟩, h4⟩ := hB
    have ho : ops[k]? = some o := by have := hl 0 (by simp); simpa using this
    refine Ways.first hL ho h1 hsel (fun c a w => hQ c a _ _ w) (f + l.length) ls a w (Region.free_spec ho h2) (by simpa using h3) hy hS ?_
    exact Ways.head hL hsel hQ hS l (k + 1) (ls.setIfInBounds k true) (a.put o.dst v) (fun j hj => by have := hl (j + 1) (by simp; omega); rw [show k + 1 + j = k + (j + 1) by omega]; simpa using this) h4 h

/-- the region: the first n operations read; then the others, whichever comes up -/
theorem region_ways {id n : Nat} {l : List Oper} {a : Act} {w : World} (L : Nat) (S : World → Prop) (hm : P.follows .mixedOrders = true) (hn : n ≤ l.length) (hL : lastB .any l.toArray L = true) (hsel : Region.noSelect l.toArray = true) (hB : headB .any l.toArray L n 0 (Array.replicate l.length false) = true)
    (hQ : ∀ c (a : Act) d v w, Q (.panic c) (a.put d v) w → Q (.panic c) a w) (hS : S w.drew)
    (h : Reads P l.toArray S (fun a' => Ways P .any l.toArray Q S L (l.length - n) (listedTo n 0 (Array.replicate l.length false)) a' w.drew) (l.take n) a) : (Code.region id l.toArray true).wp P Q a w := by
  refine wp_region_any hm ?_
  have hlen : (l.take n).length = n := by simp [hn]
  have := Ways.head (P := P) (Q := Q) (f := l.length - n) hL hsel hQ hS (l.take n) 0 (Array.replicate l.length false) a (fun j hj => by
    rw [hlen] at hj
    rw [Nat.zero_add, List.getElem?_take, if_pos hj]
    simp) (by rw [hlen]; exact hB) (by rw [hlen]; exact h)
  have e : l.length - n + (l.take n).length = l.length := by rw [hlen]; omega
  rw [e] at this
  exact Ways.any _ _ _ _ (by simpa using this)

/-- the one that comes up -/
theorem Ways.step {k f : Nat} {ls : Array Bool} {a : Act} {w : World} {o : Oper} (hr : Region.ready md ops ls = [k]) (ho : ops[k]? = some o)
    (h : ∀ K : Act → World → Prop, Hid (∀ a' w', (k ≠ L → S w') → Ways P md ops Q S L f (ls.setIfInBounds k true) a' w' → K a' w') → if Region.wanted o (yielded ops a.tmps) = true then Oper.wp P o a w K Q else K (a.put o.dst undef) w) : Ways P md ops Q S L (f + 1) ls a w := by
  refine ⟨fun h0 => (by rw [hr] at h0; cases h0), fun j hj => ?_⟩
  rw [hr, List.mem_singleton] at hj
  subst hj
  exact wpOp_step ho fun K hK => h K fun a' w' h1 h2 => hK a' w' ⟨h1, h2⟩

theorem Ways.done {ls : Array Bool} {a : Act} {w : World} (hr : Region.ready md ops ls = []) (h : Q .normal a w) : Ways P md ops Q S L 0 ls a w := ⟨hr, h⟩

end
end Go.Proofs.Ybulkdink
