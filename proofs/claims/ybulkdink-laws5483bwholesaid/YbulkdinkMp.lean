import Derived.Test.YbulkdinkSort
import Derived.OwnWalk
namespace Go.Proofs.Ybulkdink
open Go.ChangeShapes Go.WideShapes Go.ChangeAt Go.RowKit
set_option linter.unusedVariables false

theorem inf29 : (Yba.prog.info? 29).map (fun i => (i.zero, i.size, i.bytes)) = some (some (.agg #[.string ⟨#[]⟩, .string ⟨#[]⟩, .string ⟨#[]⟩, .int .u64 0, .int .u64 0, .slice none 0 0]), 6, 88) := by kernel_rfl
theorem inf27 : (Yba.prog.info? 27).map (fun i => (i.zero, i.size, i.bytes)) = some (some (.slice none 0 0), 1, 24) := by kernel_rfl
theorem und27 : Yba.prog.underlying 27 = some (.slice 29) := by kernel_rfl
theorem und34 : Yba.prog.underlying 34 = some (.slice 27) := by kernel_rfl

theorem cmpV_lt_of (a b : V) (h : cmpV a b ≠ 0) (h2 : ¬ cmpV a b < 0) : cmpV b a < 0 := (cmpV_swap a b).1 (by omega)

/-- the state of a merge: M is what has gone out, i of H and k of T -/
structure MInv (H T M : List V) (i k : Nat) : Prop where
  perm : M.Perm (H.take i ++ T.take k)
  srt : Srt M
  ltH : ∀ x ∈ M, ∀ a, i ≤ a → a < H.length → cmpV x (nth H a) < 0
  ltT : ∀ x ∈ M, ∀ b, k ≤ b → b < T.length → cmpV x (nth T b) < 0

theorem MInv.start (H T : List V) : MInv H T [] 0 0 := ⟨by simp, List.Pairwise.nil, by simp, by simp⟩

theorem MInv.len {H T M : List V} {i k : Nat} (h : MInv H T M i k) (hi : i ≤ H.length) (hk : k ≤ T.length) : M.length = i + k := by
  rw [h.perm.length_eq]; simp; omega

theorem take_succ_nth (H : List V) (i : Nat) (h : i < H.length) : H.take (i + 1) = H.take i ++ [nth H i] := by
  rw [List.take_add_one]
  simp [nth, List.getD_eq_getElem?_getD, h]

theorem srt_snoc {M : List V} {u : V} (h : Srt M) (hu : ∀ x ∈ M, cmpV x u < 0) : Srt (M ++ [u]) := by
  unfold Srt
  rw [List.pairwise_append]
  exact ⟨h, by simp, fun a ha b hb => by simp at hb; subst hb; exact hu a ha⟩

theorem MInv.takeH {H T M : List V} {i k : Nat} (h : MInv H T M i k) (sH : Srt H) (sT : Srt T) (hi : i < H.length) (hk : k < T.length) (hc : cmpV (nth H i) (nth T k) < 0) : MInv H T (M ++ [nth H i]) (i + 1) k := by
  refine ⟨?_, srt_snoc h.srt fun x hx => h.ltH x hx i (Nat.le_refl _) hi, ?_, ?_⟩
  · rw [take_succ_nth H i hi]
    refine (h.perm.append_right _).trans ?_
    rw [List.append_assoc, List.append_assoc]
    exact (List.perm_append_comm).append_left _
  · intro x hx a ha hal
    rcases List.mem_append.1 hx with hx | hx
    · exact h.ltH x hx a (by omega) hal
    · simp only [List.mem_singleton] at hx; subst hx; exact sH.at i a (by omega) hal
  · intro x hx b hb hbl
    rcases List.mem_append.1 hx with hx | hx
    · exact h.ltT x hx b hb hbl
    · simp only [List.mem_singleton] at hx
      subst hx
      by_cases e : k = b
      · subst e; exact hc
      · exact cmpV_trans hc (Int.le_of_lt (sT.at k b (by omega) hbl))

theorem MInv.takeT {H T M : List V} {i k : Nat} (h : MInv H T M i k) (sH : Srt H) (sT : Srt T) (hk : k < T.length) (hc : i < H.length → cmpV (nth T k) (nth H i) < 0) : MInv H T (M ++ [nth T k]) i (k + 1) := by
  refine ⟨?_, srt_snoc h.srt fun x hx => h.ltT x hx k (Nat.le_refl _) hk, ?_, ?_⟩
  · rw [take_succ_nth T k hk, ← List.append_assoc]
    exact h.perm.append_right _
  · intro x hx a ha hal
    rcases List.mem_append.1 hx with hx | hx
    · exact h.ltH x hx a ha hal
    · simp only [List.mem_singleton] at hx
      subst hx
      by_cases e : i = a
      · subst e; exact hc hal
      · exact cmpV_trans (hc (by omega)) (Int.le_of_lt (sH.at i a (by omega) hal))
  · intro x hx b hb hbl
    rcases List.mem_append.1 hx with hx | hx
    · exact h.ltT x hx b (by omega) hbl
    · simp only [List.mem_singleton] at hx; subst hx; exact sT.at k b (by omega) hbl

theorem MInv.finish {H T M : List V} {i : Nat} (h : MInv H T M i T.length) (sH : Srt H) : (M ++ H.drop i).Perm (H ++ T) ∧ Srt (M ++ H.drop i) := by
  refine ⟨?_, ?_⟩
  · refine (h.perm.append_right _).trans ?_
    rw [List.take_length, List.append_assoc]
    refine (List.perm_append_comm.append_left _).trans ?_
    rw [← List.append_assoc, List.take_append_drop]
  · unfold Srt
    rw [List.pairwise_append]
    refine ⟨h.srt, List.Pairwise.sublist (List.drop_sublist _ _) sH, fun x hx y hy => ?_⟩
    obtain ⟨j, hj, rfl⟩ := List.getElem_of_mem hy
    have hj' : i + j < H.length := by simp at hj; omega
    have := h.ltH x hx (i + j) (by omega) hj'
    simpa [nth, List.getD_eq_getElem?_getD, hj'] using this

end Go.Proofs.Ybulkdink
