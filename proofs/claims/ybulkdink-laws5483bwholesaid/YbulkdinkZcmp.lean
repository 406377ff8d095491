import Derived.Test.YbulkdinkCmp
namespace Go.Proofs.Ybulkdink
open Go.ChangeShapes Go.WideShapes Go.ChangeAt Go.RowKit
set_option linter.unusedVariables false

theorem cmpV_s {a b : V} (h : a.s ≠ b.s) : cmpV a b = if a.s < b.s then -1 else 1 := by
  unfold cmpV cor c1
  by_cases h1 : a.s < b.s
  · simp [h1]
  · have h2 : b.s < a.s := by omega
    simp [h1, h2]
theorem cmpV_t {a b : V} (h0 : a.s = b.s) (h : a.t ≠ b.t) : cmpV a b = if a.t < b.t then -1 else 1 := by
  unfold cmpV cor c1
  by_cases h1 : a.t < b.t
  · simp [h0, h1]
  · have h2 : b.t < a.t := by omega
    simp [h0, h1, h2]
theorem cmpV_src {a b : V} (h0 : a.s = b.s) (h1 : a.t = b.t) (h : a.src ≠ b.src) : cmpV a b = if a.src < b.src then -1 else 1 := by
  unfold cmpV cor c1
  by_cases h2 : a.src < b.src
  · simp [h0, h1, h2]
  · have h3 : b.src < a.src := by omega
    simp [h0, h1, h2, h3]
theorem cmpV_tgt {a b : V} (h0 : a.s = b.s) (h1 : a.t = b.t) (h2 : a.src = b.src) (h : a.tgt ≠ b.tgt) : cmpV a b = if a.tgt < b.tgt then -1 else 1 := by
  unfold cmpV cor c1
  by_cases h3 : a.tgt < b.tgt
  · simp [h0, h1, h2, h3]
  · have h4 : b.tgt < a.tgt := by omega
    simp [h0, h1, h2, h3, h4]
theorem cmpV_eq {a b : V} (h0 : a.s = b.s) (h1 : a.t = b.t) (h2 : a.src = b.src) (h3 : a.tgt = b.tgt) : cmpV a b = 0 := by
  unfold cmpV cor c1
  simp [h0, h1, h2, h3]

theorem str_beq {i j : Nat} (hi : i ≤ 2) (hj : j ≤ 2) : ((str i).toList == (str j).toList) = decide (i = j) := by
  have hi3 : i = 0 ∨ i = 1 ∨ i = 2 := by omega
  have hj3 : j = 0 ∨ j = 1 ∨ j = 2 := by omega
  rcases hi3 with rfl | rfl | rfl <;> rcases hj3 with rfl | rfl | rfl <;> decide +kernel
theorem str_lt {i j : Nat} (hi : i ≤ 2) (hj : j ≤ 2) : Op.bytesLess (str i).toList (str j).toList = decide (i < j) := by
  have hi3 : i = 0 ∨ i = 1 ∨ i = 2 := by omega
  have hj3 : j = 0 ∨ j = 1 ∨ j = 2 := by omega
  rcases hi3 with rfl | rfl | rfl <;> rcases hj3 with rfl | rfl | rfl <;> decide +kernel

set_option maxRecDepth 100000 in
set_option maxHeartbeats 4000000 in
theorem zcmp (a b : V) (w : World) (ha : a.Ok) (hb : b.Ok) :
    Calls Yba.prog 5 #[a.val, b.val] w fun e w' => e = .returned (.int .i64 (cmpV a b)) ∧ Ext w w' := by
  have e1 := str_beq ha.1 hb.1
  have e2 := str_beq ha.2 hb.2
  have l1 := str_lt ha.1 hb.1
  have l2 := str_lt ha.2 hb.2
  have hE : ∀ o p, Ext w ((w.alloc o).alloc p) := fun o p => ((Ext.refl w).alloc o).alloc p
  by_cases hs : a.s = b.s
  · have qs : (a.s != b.s) = false := by simp [hs]
    by_cases ht : a.t = b.t
    · have qt : (a.t != b.t) = false := by simp [ht]
      by_cases hsrc : a.src = b.src
      · rw [decide_eq_true hsrc] at e1
        by_cases htgt : a.tgt = b.tgt
        · rw [decide_eq_true htgt] at e2
          have er := cmpV_eq hs ht hsrc htgt
          go_enter Yba.func5, Yba.ntmps5
          go_wp2
          go_ret
          exact ⟨by first | rfl | (rw [er]; rfl), hE _ _⟩
        · rw [decide_eq_false htgt] at e2
          have er := cmpV_tgt hs ht hsrc htgt
          by_cases gtgt : a.tgt < b.tgt
          · rw [if_pos gtgt] at er
            rw [decide_eq_true gtgt] at l2
            go_enter Yba.func5, Yba.ntmps5
            go_wp2
            go_ret
            exact ⟨by first | rfl | (rw [er]; rfl), hE _ _⟩
          · rw [if_neg gtgt] at er
            rw [decide_eq_false gtgt] at l2
            go_enter Yba.func5, Yba.ntmps5
            go_wp2
            go_ret
            exact ⟨by first | rfl | (rw [er]; rfl), hE _ _⟩
      · rw [decide_eq_false hsrc] at e1
        have er := cmpV_src hs ht hsrc
        by_cases gsrc : a.src < b.src
        · rw [if_pos gsrc] at er
          rw [decide_eq_true gsrc] at l1
          go_enter Yba.func5, Yba.ntmps5
          go_wp2
          go_ret
          exact ⟨by first | rfl | (rw [er]; rfl), hE _ _⟩
        · rw [if_neg gsrc] at er
          rw [decide_eq_false gsrc] at l1
          go_enter Yba.func5, Yba.ntmps5
          go_wp2
          go_ret
          exact ⟨by first | rfl | (rw [er]; rfl), hE _ _⟩
    · have qt : (a.t != b.t) = true := by simp [ht]
      have er := cmpV_t hs ht
      by_cases gt : a.t < b.t
      · rw [if_pos gt] at er
        go_enter Yba.func5, Yba.ntmps5
        go_wp2
        go_ret
        exact ⟨by first | rfl | (rw [er]; rfl), hE _ _⟩
      · rw [if_neg gt] at er
        go_enter Yba.func5, Yba.ntmps5
        go_wp2
        go_ret
        exact ⟨by first | rfl | (rw [er]; rfl), hE _ _⟩
  · have qs : (a.s != b.s) = true := by simp [hs]
    have er := cmpV_s hs
    by_cases gs : a.s < b.s
    · rw [if_pos gs] at er
      go_enter Yba.func5, Yba.ntmps5
      go_wp2
      go_ret
      exact ⟨by first | rfl | (rw [er]; rfl), hE _ _⟩
    · rw [if_neg gs] at er
      go_enter Yba.func5, Yba.ntmps5
      go_wp2
      go_ret
      exact ⟨by first | rfl | (rw [er]; rfl), hE _ _⟩

end Go.Proofs.Ybulkdink
