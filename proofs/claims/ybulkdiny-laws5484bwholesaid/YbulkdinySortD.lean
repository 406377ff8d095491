import Derived.Test.YbulkdinySortC
import Derived.Laws.BitsAllLaws
import Derived.Lib.BitFns
import Derived.Lib.Small
namespace Go.Proofs.Ybulkdiny
open Go.ChangeShapes Go.WideShapes Go.ChangeAt Go.RowKit
set_option linter.unusedVariables false

theorem tab_all : ∀ i : Fin 256, (Lib.len8tab.data[i.val]!).toNat = Lib.bitLen i.val := by decide +kernel
theorem tab_size : Lib.len8tab.size = 256 := by decide +kernel
theorem tab_at (x : Nat) (hx : x < 256) (h : x < Lib.len8tab.size) : (Lib.len8tab[x]'h).toNat = Lib.bitLen x := by
  rw [← tab_all ⟨x, hx⟩]
  show (Lib.len8tab.data[x]'h).toNat = _
  rw [getElem!_pos Lib.len8tab.data x h]

set_option maxRecDepth 100000 in
set_option maxHeartbeats 1000000 in
theorem len64_any (x : Int) (w : World) (h0 : 0 ≤ x) (h1 : x ≤ 2097152) :
    Calls Yba.prog 32 #[.int .u64 x] w fun e w' => e = .returned (.int .i64 (Lib.bitLen x.toNat)) ∧ w' = w := by
  have hsz := tab_size
  go_enter Yba.func32, Yba.ntmps32
  go_wp2
  all_goals (go_ret; refine ⟨congrArg Ending.returned (congrArg (Value.int IntKind.i64) ?_), rfl⟩)
  · rw [tab_at _ (by omega) _]
    have l := Lib.bitLen_le8' (x / 65536) (by omega) (by omega)
    have s := Lib.bitLen_shift16 x.toNat (by omega) (by omega)
    have e : (x / 65536).toNat = x.toNat / 65536 := by omega
    rw [e] at l ⊢
    unfold wrap64
    omega
  · rw [tab_at _ (by omega) _]
    have l := Lib.bitLen_le8' (x / 256) (by omega) (by omega)
    have s := Lib.bitLen_shift8 x.toNat (by omega) (by omega)
    have e : (x / 256).toNat = x.toNat / 256 := by omega
    rw [e] at l ⊢
    unfold wrap64
    omega
  · rw [tab_at _ (by omega) _]
    have l := Lib.bitLen_le8' x (by omega) (by omega)
    unfold wrap64
    omega

theorem bitLen_le (x : Nat) (h : x < 4194304) : Lib.bitLen x ≤ 22 := Lib.bitLenAux_le 64 x 22 h

set_option maxHeartbeats 1000000 in
theorem len_any (x : Nat) (w : World) (h1 : x ≤ 2097152) :
    Calls Yba.prog 16 #[.int .u64 x] w fun e w' => e = .returned (.int .i64 (Lib.bitLen x)) ∧ w' = w := by
  go_enter Yba.func16, Yba.ntmps16
  go_wp2_with (go_at_call 32; refine (len64_any _ _ (by omega) (by omega)).mono ?_; rintro e w' ⟨rfl, rfl⟩)
  go_ret
  exact ⟨by simp, rfl⟩

set_option maxHeartbeats 1000000 in
theorem pow_any (x : Nat) (w : World) (h1 : x ≤ 2097152) :
    Calls Yba.prog 41 #[.int .i64 x] w fun e w' => e = .returned (.int .u64 ((2 ^ Lib.bitLen x : Nat) : Int)) ∧ w' = w := by
  have hb := bitLen_le x (by omega)
  obtain ⟨L, hL⟩ : ∃ L, L = Lib.bitLen x := ⟨_, rfl⟩
  rw [← hL] at hb ⊢
  have HL : Hid (L = Lib.bitLen x) := hL
  clear hL
  go_enter Yba.func41, Yba.ntmps41
  go_wp2_with fail
  refine (len_any x _ h1).mono ?_
  rintro e w' ⟨rfl, rfl⟩
  rw [← HL.out]
  go_wp2
  go_ret
  refine ⟨congrArg Ending.returned (congrArg (Value.int IntKind.u64) ?_), rfl⟩
  have hp : 2 ^ L ≤ 2 ^ 22 := Nat.pow_le_pow_right (by omega) hb
  have e : (2 : Int) ^ L = ((2 ^ L : Nat) : Int) := by simp
  rw [e, IntKind.wrap_u64]
  generalize 2 ^ L = T at hp
  omega

theorem bitLen_bd : ∀ k x : Nat, x < 2 ^ k → k ≤ 60 → 0 < x → 2 ^ Lib.bitLen x ≤ 2 * x ∧ x < 2 ^ Lib.bitLen x
  | 0, x, h, _, h0 => by simp at h; omega
  | k + 1, x, h, hk, h0 => by
    have hp : 2 ^ (k + 1) ≤ 2 ^ 61 := Nat.pow_le_pow_right (by omega) (by omega)
    rw [Lib.bitLen_half x (by omega) (by omega), Nat.pow_add]
    by_cases h1 : x = 1
    · subst h1
      decide
    · have ih := bitLen_bd k (x / 2) (by rw [Nat.pow_succ] at h; omega) (by omega) (by omega)
      omega

theorem set_cell {w : World} {S : Nat} {t : TypeId} {u : Value} (hs : w.heap[S]? = some (.cells #[u] t (0, 0))) (v : Value) : (w.setCell ⟨S, 0, none⟩ v).cell? ⟨S, 0, none⟩ = some v := cell_of_one (one_setCell hs)

set_option maxHeartbeats 1000000 in
theorem next_any (S : Nat) (s : Int) (w : World) (hs : w.heap[S]? = some (.cells #[.int .u64 s] 63 (0, 0))) :
    Calls Yba.prog 42 #[.pointer (some ⟨S, 0, none⟩)] w fun e w' =>
      ∃ r : Int, (Lit.int .u64 r).wf = true ∧ e = .returned (.int .u64 r) ∧ w'.heap[S]? = some (.cells #[.int .u64 r] 63 (0, 0)) ∧ Kept S w w' := by
  have cs := cell_of_one hs
  have fs := free_of_one hs
  have s1 := fun v => set_cell hs v
  have s2 := fun v v' => set_cell (one_setCell (u := v) hs) v'
  have s3 := fun v v' v'' => set_cell (one_setCell (u := v') (one_setCell (u := v) hs)) v''
  have HS : Hid (∀ v v' v'', (((w.setCell ⟨S, 0, none⟩ v).setCell ⟨S, 0, none⟩ v').setCell ⟨S, 0, none⟩ v'').heap[S]? = some (.cells #[v''] 63 (0, 0))) := fun v v' v'' => one_setCell (one_setCell (one_setCell hs))
  clear hs
  go_enter Yba.func42, Yba.ntmps42
  go_wp2
  go_region
  go_wp2
  go_region
  go_wp2
  go_region
  go_wp2
  go_ret
  exact ⟨_, wf_bits _ _ _ _, rfl, HS.out _ _ _, (((((Kept.refl S w).set 0 _).set 0 _).set 0 _).drewN 3)⟩
theorem Kept.beyond {g S : Nat} {w wr w1 : World} (h : Kept g w wr) (k : Kept S wr w1) (hS : w.heap.size ≤ S) : Kept g w w1 :=
  ⟨k.os.trans h.os, k.tape.trans h.tape, k.output.trans h.output, Nat.le_trans h.size k.size, fun i hi hne => (k.block i (Nat.lt_of_lt_of_le hi h.size) (by simp; omega)).trans (h.block i hi hne)⟩

theorem blk_drew {w : World} {S : Nat} {o : Obj} (h : w.heap[S]? = some o) : w.drew.heap[S]? = some o := h
theorem blk_set2 {w : World} {S g : Nat} {o : Obj} (h : w.heap[S]? = some o) (hne : S ≠ g) (i j : Nat) (u v : Value) : ((w.setCell ⟨g, i, none⟩ u).setCell ⟨g, j, none⟩ v).heap[S]? = some o := by
  rw [Below.heap_setCell _ _ _ _ hne, Below.heap_setCell _ _ _ _ hne]; exact h

set_option maxHeartbeats 2000000 in
theorem brk_any (g n cap a b : Nat) (w : World) (hn : n ≤ 1048576) (hab : a + 12 < b) (hb : b ≤ n) (h : Row w g n) :
    Calls Yba.prog 24 #[.slice (some ⟨g, 0, none⟩) n cap, .int .i64 a, .int .i64 b] w fun e w' => e = .returned (.tuple #[]) ∧ Row w' g n ∧ Kept g w w' := by
  obtain ⟨l, hl⟩ : ∃ l : Nat, (b : Int) - (a : Int) = (l : Int) := ⟨b - a, by omega⟩
  have hl1 : 12 < l ∧ a + l ≤ n := by omega
  obtain ⟨q, hq⟩ : ∃ q : Nat, (l : Int) / 4 = (q : Int) := ⟨l / 4, by omega⟩
  obtain ⟨j, hj⟩ : ∃ j : Nat, (a : Int) + (q : Int) * 2 = (j : Int) := ⟨a + q * 2, by omega⟩
  have bj : a + 1 ≤ j ∧ j + 1 < b := by omega
  have bq : q ≤ 262144 := by omega
  have h8 : decide ((8 : Int) ≤ (l : Int)) = true := decide_eq_true (by omega)
  have hne : g ≠ w.heap.size := by have := h.lt; omega
  obtain ⟨M, hM⟩ : ∃ M : Nat, M = 2 ^ Lib.bitLen l := ⟨_, rfl⟩
  have hM2 : M ≤ 2 * l ∧ l < M := by rw [hM]; exact bitLen_bd 21 l (by omega) (by omega) (by omega)
  have HM : Hid (M = 2 ^ Lib.bitLen l) := hM
  clear hM
  go_enter Yba.func24, Yba.ntmps24
  go_wp2_with fail
  refine (pow_any l _ (by omega)).mono ?_
  rintro e w1 ⟨rfl, hw1⟩
  rw [← HM.out]
  subst hw1
  go_wp2_with fail
  go_loopw [9, 10] (fun iv _ wr => ∃ (t : Nat) (s : Int), a ≤ t ∧ t ≤ j + 2 ∧ iv = .int .i64 t ∧ wr.heap[w.heap.size]? = some (.cells #[.int .u64 s] 63 (0, 0)) ∧ Row wr g n ∧ Kept g w wr) (fun iv _ _ => j + 2 - (intOf iv).toNat)
  case atStart => exact ⟨j - 1, l, by omega, by omega, by go_num, Deep.blk_alloc_new _ _, h.alloc _, World.grownBy_alloc _ _ _⟩
  case round =>
    obtain ⟨t, s, ht1, ht2, rfl, hs, hR, hK⟩ := hrel
    have hSg : w.heap.size ≠ g := fun e => hne e.symm
    by_cases hlt : t ≤ j + 1
    · have hlt' : (t : Int) ≤ (j : Int) + 1 := by omega
      go_wp2_with fail
      refine (next_any w.heap.size s wr hs).mono ?_
      rintro e w1 ⟨r, hwr, rfl, hs1, hk1⟩
      have hR1 := hR.kept hk1 hne
      have hK1 : Kept g w w1 := hK.beyond hk1 (Nat.le_refl _)
      have hrb := bounds_u64 hwr
      obtain ⟨o, ho, hoM⟩ : ∃ o : Nat, bits .and .u64 r ((M : Int) - 1) = (o : Int) ∧ o < M := by
        rw [u64_and r ((M : Int) - 1) hrb.1 (by omega) (by omega) (by omega)]
        exact ⟨_, rfl, by have := Nat.and_le_right (n := r.toNat) (m := ((M : Int) - 1).toNat); omega⟩
      clear hs hR hK hk1 hwr
      by_cases hlo : l ≤ o
      · have hlo' : (l : Int) ≤ (o : Int) := by omega
        obtain ⟨o2, ho2⟩ : ∃ o2 : Nat, (o : Int) - (l : Int) = (o2 : Int) := ⟨o - l, by omega⟩
        have ho3 : o2 < l := by omega
        obtain ⟨p, hp⟩ : ∃ p : Nat, p = a + o2 := ⟨_, rfl⟩
        obtain ⟨x, hx, cx⟩ := hR1.cell (i := t) (by omega)
        obtain ⟨y, hy, cy⟩ := hR1.cell (i := p) (by omega)
        obtain ⟨y', _, cy'⟩ := (hR1.set t hy).cell (i := p) (by omega)
        have fx := hR1.frozen t
        have fy := hR1.frozen p
        have b1 : t < n := by omega
        have b2 : p < n := by omega
        have r1 : (a : Int) + (o2 : Int) = (p : Int) := by omega
        have v1 := wr64 (p : Int) p rfl (by omega)
        clear hp
        go_wp2
        go_region
        all_goals go_wp2
        all_goals go_roundw
        case rel => exact ⟨t + 1, r, by omega, by omega, by go_num, blk_set2 (blk_drew hs1) hSg _ _ _ _, hR1.drew.swap _ _ hy hx, ((hK1.drew).set _ _).set _ _⟩
        case measure => simp [intOf] <;> omega
      · have hlo' : (o : Int) < (l : Int) := by omega
        obtain ⟨o2, ho2⟩ : ∃ o2 : Nat, o = o2 := ⟨o, rfl⟩
        subst ho2
        obtain ⟨p, hp⟩ : ∃ p : Nat, p = a + o := ⟨_, rfl⟩
        obtain ⟨x, hx, cx⟩ := hR1.cell (i := t) (by omega)
        obtain ⟨y, hy, cy⟩ := hR1.cell (i := p) (by omega)
        obtain ⟨y', _, cy'⟩ := (hR1.set t hy).cell (i := p) (by omega)
        have fx := hR1.frozen t
        have fy := hR1.frozen p
        have b1 : t < n := by omega
        have b2 : p < n := by omega
        have r1 : (a : Int) + (o : Int) = (p : Int) := by omega
        have v1 := wr64 (p : Int) p rfl (by omega)
        clear hp
        go_wp2
        go_region
        all_goals go_wp2
        all_goals go_roundw
        case rel => exact ⟨t + 1, r, by omega, by omega, by go_num, blk_set2 (blk_drew hs1) hSg _ _ _ _, hR1.drew.swap _ _ hy hx, ((hK1.drew).set _ _).set _ _⟩
        case measure => simp [intOf] <;> omega
    · go_wp2
      go_end0
      exact ⟨rfl, hR, hK⟩
end Go.Proofs.Ybulkdiny
