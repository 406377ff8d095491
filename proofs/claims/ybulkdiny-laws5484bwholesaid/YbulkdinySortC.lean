import Derived.Test.YbulkdinySortB
namespace Go.Proofs.Ybulkdiny
open Go.ChangeShapes Go.WideShapes Go.ChangeAt Go.RowKit
set_option linter.unusedVariables false

/-- block S is one int -/
def Cnt (w : World) (S : Nat) : Prop := ∃ s : Int, w.heap[S]? = some (.cells #[.int .i64 s] 3 (0, 0))

set_option maxHeartbeats 1000000 in
theorem ord_any (g n cap lo hi a b S : Nat) (w : World) (hn : n ≤ 1048576) (hhi : hi ≤ n) (ha : lo ≤ a ∧ a < hi) (hb : lo ≤ b ∧ b < hi) (h : Row w g n) (hs : Cnt w S) :
    Calls Yba.prog 49 #[.slice (some ⟨g, 0, none⟩) n cap, .int .i64 a, .int .i64 b, .pointer (some ⟨S, 0, none⟩)] w fun e w' =>
      (∃ x y : Nat, lo ≤ x ∧ x < hi ∧ lo ≤ y ∧ y < hi ∧ e = .returned (.tuple #[.int .i64 x, .int .i64 y])) ∧ Cnt w' S ∧ Kept S w w' := by
  obtain ⟨s, hs⟩ := hs
  obtain ⟨x, hx, cx⟩ := h.cell (i := a) (by omega)
  obtain ⟨y, hy, cy⟩ := h.cell (i := b) (by omega)
  have b1 : (a : Int) < (n : Int) := by omega
  have b2 : (b : Int) < (n : Int) := by omega
  have cs := cell_of_one hs
  have fs := free_of_one hs
  have hset : ∀ k u, ((w.drewN k).setCell ⟨S, 0, none⟩ (.int .i64 u)).heap[S]? = some (.cells #[.int .i64 u] 3 (0, 0)) := fun k u => one_setCell (w := w.drewN k) hs
  have HS : Hid (w.heap[S]? = some (.cells #[.int .i64 s] 3 (0, 0))) := hs
  have HSet : Hid (∀ k u, ((w.drewN k).setCell ⟨S, 0, none⟩ (.int .i64 u)).heap[S]? = some (.cells #[.int .i64 u] 3 (0, 0))) := hset
  clear hs hset
  by_cases hxy : y < x
  · go_enter Yba.func49, Yba.ntmps49
    go_wp2
    go_quiet ((go_at_call 28; exact Calls.quiet_of_same (less_any _ _ _)))
    go_wp2
    go_ret2
    exact ⟨⟨b, a, hb.1, hb.2, ha.1, ha.2, rfl⟩, ⟨_, HSet.out _ _⟩, ((Kept.refl S w).drewN _).set _ _⟩
  · have hxy' : decide (y < x) = false := decide_eq_false hxy
    go_enter Yba.func49, Yba.ntmps49
    go_wp2
    go_quiet ((go_at_call 28; exact Calls.quiet_of_same (less_any _ _ _)))
    go_wp2
    go_ret2
    exact ⟨⟨a, b, ha.1, ha.2, hb.1, hb.2, rfl⟩, ⟨_, HS.out⟩, (Kept.refl S w).drewN _⟩

theorem Row.kept {w w' : World} {g n S : Nat} (h : Row w g n) (hk : Kept S w w') (hne : g ≠ S) : Row w' g n := h.of_block (hk.block g h.lt (by simpa using hne))

set_option maxHeartbeats 1000000 in
theorem med_any (g n cap lo hi a b c S : Nat) (w : World) (hn : n ≤ 1048576) (hhi : hi ≤ n) (ha : lo ≤ a ∧ a < hi) (hb : lo ≤ b ∧ b < hi) (hc : lo ≤ c ∧ c < hi) (h : Row w g n) (hs : Cnt w S) (hne : g ≠ S) :
    Calls Yba.prog 44 #[.slice (some ⟨g, 0, none⟩) n cap, .int .i64 a, .int .i64 b, .int .i64 c, .pointer (some ⟨S, 0, none⟩)] w fun e w' =>
      (∃ x : Nat, lo ≤ x ∧ x < hi ∧ e = .returned (.int .i64 x)) ∧ Cnt w' S ∧ Kept S w w' := by
  go_enter Yba.func44, Yba.ntmps44
  go_wp2_with fail
  refine (ord_any g n cap lo hi a b S w hn hhi ha hb h hs).mono ?_
  rintro e w1 ⟨⟨x1, y1, p1, p2, p3, p4, rfl⟩, hs1, hk1⟩
  go_wp2_with fail
  refine (ord_any g n cap lo hi y1 c S w1 hn hhi ⟨p3, p4⟩ hc (h.kept hk1 hne) hs1).mono ?_
  rintro e w2 ⟨⟨x2, y2, q1, q2, q3, q4, rfl⟩, hs2, hk2⟩
  go_wp2_with fail
  refine (ord_any g n cap lo hi x1 x2 S w2 hn hhi ⟨p1, p2⟩ ⟨q1, q2⟩ ((h.kept hk1 hne).kept hk2 hne) hs2).mono ?_
  rintro e w3 ⟨⟨x3, y3, r1, r2, r3, r4, rfl⟩, hs3, hk3⟩
  go_wp2_with fail
  go_ret
  exact ⟨⟨y3, r3, r4, rfl⟩, hs3, (hk1.trans hk2).trans hk3⟩

set_option maxHeartbeats 1000000 in
theorem medadj_any (g n cap lo hi a S : Nat) (w : World) (hn : n ≤ 1048576) (hhi : hi ≤ n) (ha : lo + 1 ≤ a ∧ a + 1 < hi) (h : Row w g n) (hs : Cnt w S) (hne : g ≠ S) :
    Calls Yba.prog 43 #[.slice (some ⟨g, 0, none⟩) n cap, .int .i64 a, .pointer (some ⟨S, 0, none⟩)] w fun e w' =>
      (∃ x : Nat, lo ≤ x ∧ x < hi ∧ e = .returned (.int .i64 x)) ∧ Cnt w' S ∧ Kept S w w' := by
  obtain ⟨p, hp⟩ : ∃ p : Nat, (a : Int) - 1 = (p : Int) := ⟨a - 1, by omega⟩
  obtain ⟨q, hq⟩ : ∃ q : Nat, (a : Int) + 1 = (q : Int) := ⟨a + 1, by omega⟩
  have hp' : lo ≤ p ∧ p < hi := by omega
  have hq' : lo ≤ q ∧ q < hi := by omega
  go_enter Yba.func43, Yba.ntmps43
  go_wp2_with fail
  refine (med_any g n cap lo hi p a q S w hn hhi hp' (by omega) hq' h hs hne).mono ?_
  rintro e w1 ⟨⟨x1, p1, p2, rfl⟩, hs1, hk1⟩
  go_wp2_with fail
  go_ret
  exact ⟨⟨x1, p1, p2, rfl⟩, hs1, hk1⟩

theorem Kept.of_new {g : Nat} {w w' : World} {o : Obj} (h : Kept w.heap.size (w.alloc o) w') : Kept g w w' :=
  ⟨h.os, h.tape, h.output, Nat.le_trans (by simp) h.size, fun k hk _ => (h.block k (by simp; omega) (by simp; omega)).trans (Below.heap_alloc _ _ _ hk)⟩

set_option maxHeartbeats 1000000 in
theorem pivot_any (g n cap a b : Nat) (w : World) (hn : n ≤ 1048576) (hab : a + 12 < b) (hb : b ≤ n) (h : Row w g n) :
    Calls Yba.prog 25 #[.slice (some ⟨g, 0, none⟩) n cap, .int .i64 a, .int .i64 b] w fun e w' =>
      (∃ (p : Nat) (t : Int), a ≤ p ∧ p < b ∧ (t = 0 ∨ t = 1 ∨ t = 2) ∧ e = .returned (.tuple #[.int .i64 p, .int .i64 t])) ∧ Row w' g n ∧ Kept g w w' := by
  obtain ⟨l, hl⟩ : ∃ l : Nat, (b : Int) - (a : Int) = (l : Int) := ⟨b - a, by omega⟩
  obtain ⟨q, hq⟩ : ∃ q : Nat, (l : Int) / 4 = (q : Int) := ⟨l / 4, by omega⟩
  obtain ⟨i, hi⟩ : ∃ i : Nat, (a : Int) + (q : Int) = (i : Int) := ⟨a + q, by omega⟩
  obtain ⟨j, hj⟩ : ∃ j : Nat, (a : Int) + (q : Int) * 2 = (j : Int) := ⟨a + q * 2, by omega⟩
  obtain ⟨k, hk⟩ : ∃ k : Nat, (a : Int) + (q : Int) * 3 = (k : Int) := ⟨a + q * 3, by omega⟩
  have hl1 : 12 < l ∧ a + l ≤ n := by omega
  have bi : a ≤ i ∧ i < b := by omega
  have bj : a ≤ j ∧ j < b := by omega
  have bk : a ≤ k ∧ k < b := by omega
  have bq : q ≤ 262144 := by omega
  have hne : g ≠ w.heap.size := by have := h.lt; omega
  have hR0 := h.alloc (.cells #[.int .i64 0] 3)
  have hc0 : Cnt (w.alloc (.cells #[.int .i64 0] 3)) w.heap.size := ⟨0, Deep.blk_alloc_new _ _⟩
  have h8 : decide ((8 : Int) ≤ (l : Int)) = true := decide_eq_true (by omega)
  by_cases h50 : 50 ≤ l
  · have h50' : decide ((50 : Int) ≤ (l : Int)) = true := decide_eq_true (by omega)
    have bi2 : a + 1 ≤ i ∧ i + 1 < b := by omega
    have bj2 : a + 1 ≤ j ∧ j + 1 < b := by omega
    have bk2 : a + 1 ≤ k ∧ k + 1 < b := by omega
    go_enter Yba.func25, Yba.ntmps25
    go_wp2_with fail
    refine (medadj_any g n cap a b i w.heap.size _ hn hb bi2 hR0 hc0 hne).mono ?_
    rintro e w1 ⟨⟨x1, p1, p2, rfl⟩, hs1, hk1⟩
    go_wp2_with fail
    refine (medadj_any g n cap a b j w.heap.size w1 hn hb bj2 (hR0.kept hk1 hne) hs1 hne).mono ?_
    rintro e w2 ⟨⟨x2, q1, q2, rfl⟩, hs2, hk2⟩
    go_wp2_with fail
    refine (medadj_any g n cap a b k w.heap.size w2 hn hb bk2 ((hR0.kept hk1 hne).kept hk2 hne) hs2 hne).mono ?_
    rintro e w3 ⟨⟨x3, r1, r2, rfl⟩, hs3, hk3⟩
    go_wp2_with fail
    refine (med_any g n cap a b x1 x2 x3 w.heap.size w3 hn hb ⟨p1, p2⟩ ⟨q1, q2⟩ ⟨r1, r2⟩ (((hR0.kept hk1 hne).kept hk2 hne).kept hk3 hne) hs3 hne).mono ?_
    rintro e w4 ⟨⟨x4, v1, v2, rfl⟩, hs4, hk4⟩
    obtain ⟨sv, hsv⟩ := hs4
    have csv := cell_of_one hsv
    clear hsv
    by_cases s0 : sv = 0
    · subst s0
      go_wp2
      go_ret2
      exact ⟨⟨x4, 1, v1, v2, .inr (.inl rfl), rfl⟩, hR0.kept (((hk1.trans hk2).trans hk3).trans hk4) hne, Kept.of_new (((hk1.trans hk2).trans hk3).trans hk4)⟩
    · have s0' : (sv == 0) = false := beq_eq_false_iff_ne.2 s0
      by_cases s12 : sv = 12
      · subst s12
        go_wp2
        go_ret2
        exact ⟨⟨x4, 2, v1, v2, .inr (.inr rfl), rfl⟩, hR0.kept (((hk1.trans hk2).trans hk3).trans hk4) hne, Kept.of_new (((hk1.trans hk2).trans hk3).trans hk4)⟩
      · have s12' : (sv == 12) = false := beq_eq_false_iff_ne.2 s12
        go_wp2
        go_ret2
        exact ⟨⟨x4, 0, v1, v2, .inl rfl, rfl⟩, hR0.kept (((hk1.trans hk2).trans hk3).trans hk4) hne, Kept.of_new (((hk1.trans hk2).trans hk3).trans hk4)⟩
  · have h50' : decide ((50 : Int) ≤ (l : Int)) = false := decide_eq_false (by omega)
    go_enter Yba.func25, Yba.ntmps25
    go_wp2_with fail
    refine (med_any g n cap a b i j k w.heap.size _ hn hb bi bj bk hR0 hc0 hne).mono ?_
    rintro e w4 ⟨⟨x4, v1, v2, rfl⟩, hs4, hk4⟩
    obtain ⟨sv, hsv⟩ := hs4
    have csv := cell_of_one hsv
    clear hsv
    by_cases s0 : sv = 0
    · subst s0
      go_wp2
      go_ret2
      exact ⟨⟨x4, 1, v1, v2, .inr (.inl rfl), rfl⟩, hR0.kept hk4 hne, Kept.of_new hk4⟩
    · have s0' : (sv == 0) = false := beq_eq_false_iff_ne.2 s0
      by_cases s12 : sv = 12
      · subst s12
        go_wp2
        go_ret2
        exact ⟨⟨x4, 2, v1, v2, .inr (.inr rfl), rfl⟩, hR0.kept hk4 hne, Kept.of_new hk4⟩
      · have s12' : (sv == 12) = false := beq_eq_false_iff_ne.2 s12
        go_wp2
        go_ret2
        exact ⟨⟨x4, 0, v1, v2, .inl rfl, rfl⟩, hR0.kept hk4 hne, Kept.of_new hk4⟩
end Go.Proofs.Ybulkdiny
