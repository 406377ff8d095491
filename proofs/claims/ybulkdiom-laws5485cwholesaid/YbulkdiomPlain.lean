/- The plain law of LawS5485CWhole: chains of parents, and what a raise leaves. No Go in sight. -/
namespace Go.Proofs.Ybulkdiom.Plain

/-- the chain of ancestors of q, q first -/
def chainF (par : Nat → Int) : Nat → Nat → List Nat
  | 0, q => [q]
  | f + 1, q => q :: (if par q < 0 then [] else chainF par f (par q).toNat)

def chain (par : Nat → Int) (q : Nat) : List Nat := chainF par q q

theorem chainF_fuel (par : Nat → Int) (h : ∀ q : Nat, -1 ≤ par q ∧ par q < q) : ∀ f q, q ≤ f → ∀ g, q ≤ g → chainF par f q = chainF par g q := by
  intro f
  induction f with
  | zero =>
    intro q hq g hg
    have h0 : q = 0 := by omega
    subst h0
    cases g with
    | zero => rfl
    | succ g =>
      have := h 0
      simp only [chainF]
      rw [if_pos (by omega)]
  | succ f ih =>
    intro q hq g hg
    have hp := h q
    cases g with
    | zero =>
      have h0 : q = 0 := by omega
      subst h0
      simp only [chainF]
      rw [if_pos (by omega)]
    | succ g =>
      simp only [chainF]
      split
      · rfl
      · rw [ih (par q).toNat (by omega) g (by omega)]

theorem chain_eq (par : Nat → Int) (h : ∀ q : Nat, -1 ≤ par q ∧ par q < q) (q : Nat) : chain par q = q :: (if par q < 0 then [] else chain par (par q).toNat) := by
  have hp := h q
  unfold chain
  cases q with
  | zero => simp only [chainF]; rw [if_pos (by omega)]
  | succ q =>
    show (q + 1) :: (if par (q + 1) < 0 then [] else chainF par q (par (q + 1)).toNat) = _
    split
    · rfl
    · rw [chainF_fuel par h q (par (q + 1)).toNat (by omega) (par (q + 1)).toNat (Nat.le_refl _)]

theorem chain_le (par : Nat → Int) (h : ∀ q : Nat, -1 ≤ par q ∧ par q < q) : ∀ q x, x ∈ chain par q → x ≤ q := by
  intro q
  induction q using Nat.strongRecOn with
  | ind q ih =>
    intro x hx
    have hp := h q
    rw [chain_eq par h] at hx
    rcases List.mem_cons.1 hx with rfl | hx
    · exact Nat.le_refl _
    · split at hx
      · simp at hx
      · have := ih (par q).toNat (by omega) x hx
        omega

theorem chain_len (par : Nat → Int) (h : ∀ q : Nat, -1 ≤ par q ∧ par q < q) : ∀ q, (chain par q).length ≤ q + 1 := by
  intro q
  induction q using Nat.strongRecOn with
  | ind q ih =>
    have hp := h q
    rw [chain_eq par h]
    split
    · simp
    · have := ih (par q).toNat (by omega)
      simp
      omega

theorem chain_nodup (par : Nat → Int) (h : ∀ q : Nat, -1 ≤ par q ∧ par q < q) : ∀ q, (chain par q).Nodup := by
  intro q
  induction q using Nat.strongRecOn with
  | ind q ih =>
    have hp := h q
    rw [chain_eq par h]
    split
    · simp
    · rw [List.nodup_cons]
      refine ⟨fun hm => ?_, ih _ (by omega)⟩
      have := chain_le par h _ _ hm
      omega

/-- what is left of the chain from the number q on: nothing below nought -/
def tail (par : Nat → Int) (q : Int) : List Nat := if q < 0 then [] else chain par q.toNat

theorem tail_nat (par : Nat → Int) (h : ∀ q : Nat, -1 ≤ par q ∧ par q < q) (q : Nat) : tail par (q : Int) = q :: tail par (par q) := by
  unfold tail
  rw [if_neg (by omega), Int.toNat_natCast, chain_eq par h]

/-- as far as the first bad one, it too -/
def upto (bad : Nat → Bool) : List Nat → List Nat
  | [] => []
  | q :: r => if bad q then [q] else q :: upto bad r

theorem upto_append (bad : Nat → Bool) (pre r : List Nat) (h : ∀ x ∈ pre, bad x = false) : upto bad (pre ++ r) = pre ++ upto bad r := by
  induction pre with
  | nil => rfl
  | cons q pre ih =>
    simp only [List.cons_append, upto, h q (by simp), Bool.false_eq_true, if_false]
    rw [ih (fun x hx => h x (List.mem_cons_of_mem _ hx))]

theorem upto_all (bad : Nat → Bool) (l : List Nat) (h : ∀ x ∈ l, bad x = false) : upto bad l = l := by
  have := upto_append bad l [] h
  simpa [upto] using this

/-- the counts with those of S raised; f: what one more is -/
def raised (f : Int → Int) (m : Nat → Int) (S : List Nat) (i : Nat) : Int := if i ∈ S then f (m i) else m i

theorem raised_nil (f : Int → Int) (m : Nat → Int) (i : Nat) : raised f m [] i = m i := by simp [raised]
theorem raised_out (f : Int → Int) (m : Nat → Int) (S : List Nat) (i : Nat) (h : i ∉ S) : raised f m S i = m i := by simp [raised, h]
theorem raised_snoc (f : Int → Int) (m : Nat → Int) (S : List Nat) (q i : Nat) : raised f m (S ++ [q]) i = if i = q then f (m q) else raised f m S i := by
  unfold raised
  by_cases h : i = q
  · subst h; simp
  · simp [h]

theorem not_mem_pre {par : Nat → Int} (h : ∀ q : Nat, -1 ≤ par q ∧ par q < q) {pre : List Nat} {q p : Nat} {r : List Nat} (e : pre ++ q :: r = chain par p) : q ∉ pre := by
  intro hm
  have hn := chain_nodup par h p
  rw [← e] at hn
  exact (List.nodup_append.1 hn).2.2 q hm q (by simp) rfl

end Go.Proofs.Ybulkdiom.Plain
