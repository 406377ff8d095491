import Derived.Test.YbulkdiomCalls
import Derived.Laws.CopyOwn
namespace Go.Proofs.Ybulkdiom.lawS5485CWhole
open Go.ChangeShapes Go.WideShapes Go.ChangeAt Go.RowKit
set_option linter.unusedVariables false

theorem Yba.info3 : (Yba.prog.info? 3).map (fun i => (i.zero, i.size, i.bytes)) = some (some (.int .i64 0), 1, 8) := by kernel_rfl
theorem Yba.info28 : (Yba.prog.info? 28).map (fun i => (i.zero, i.size, i.bytes)) = some (some (.agg #[.int .i64 0, .slice none 0 0, .slice none 0 0]), 3, 56) := by kernel_rfl
theorem Yba.info31 : (Yba.prog.info? 31).map (fun i => (i.zero, i.size, i.bytes)) = some (some (.agg #[.int .i64 0, .pointer none, .int .i64 0]), 3, 24) := by kernel_rfl

def F1 (par : Nat → Int) (k j : Nat) : Value := .int .i64 (if j < k then par j else 0)
def F2 (thr : Nat → Int) (k j : Nat) : Value := if j % 3 = 0 then .int .i64 (if j / 3 < k then thr (j / 3) else 0) else .slice none 0 0
def F3 (B : Nat) (par : Nat → Int) (k j : Nat) : Value :=
  if j % 3 = 0 then .int .i64 0 else if j % 3 = 1 then .pointer (if j / 3 < k then some ⟨B, j / 3 * 3, none⟩ else none) else .int .i64 (if j / 3 < k then par (j / 3) else 0)


def m0 (zm : Nat → Int) (len2 i : Nat) : Int := if i < len2 then zm i else 0

/-- the memory at the head of loop 1's round k -/
structure R1 (w : World) (n : Nat) (thr par m : Nat → Int) (k : Nat) (wr : World) : Prop where
  pa : wr.rowIs w.heap.size 3 n (F1 par k)
  se : wr.rowIs (w.heap.size + 1) 28 (n * 3) (F2 thr k)
  pl : wr.rowIs (w.heap.size + 1 + 1) 31 (n * 3) (F3 (w.heap.size + 1) par 0)
  me : wr.rowIs (w.heap.size + 1 + 1 + 1) 3 n (F1 m k)
  bel : Below w.heap.size w wr
  sz : wr.heap.size = w.heap.size + 1 + 1 + 1 + 1

theorem F1_set (par : Nat → Int) (k i : Nat) : (if i = k then Value.int .i64 (par k) else F1 par k i) = F1 par (k + 1) i := by
  unfold F1
  by_cases h : i = k
  · subst h; simp
  · rw [if_neg h]
    by_cases h2 : i < k
    · rw [if_pos h2, if_pos (by omega)]
    · rw [if_neg h2, if_neg (by omega)]

theorem F1_same (m : Nat → Int) (k i : Nat) (h : m k = 0) : F1 m k i = F1 m (k + 1) i := by
  unfold F1
  by_cases e : i = k
  · subst e; simp [h]
  · by_cases h2 : i < k
    · rw [if_pos h2, if_pos (by omega)]
    · rw [if_neg h2, if_neg (by omega)]

theorem F2_set (thr : Nat → Int) (k j : Nat) :
    (if j = k * 3 + 2 then Value.slice none 0 0 else if j = k * 3 + 1 then Value.slice none 0 0 else if j = k * 3 then Value.int .i64 (thr k) else F2 thr k j) = F2 thr (k + 1) j := by
  unfold F2
  by_cases h2 : j = k * 3 + 2
  · rw [if_pos h2, if_neg (by omega)]
  · rw [if_neg h2]
    by_cases h1 : j = k * 3 + 1
    · rw [if_pos h1, if_neg (by omega)]
    · rw [if_neg h1]
      by_cases h0 : j = k * 3
      · rw [if_pos h0, if_pos (by omega), if_pos (by omega), show j / 3 = k from by omega]
      · rw [if_neg h0]
        by_cases e : j % 3 = 0
        · rw [if_pos e, if_pos e]
          by_cases l : j / 3 < k
          · rw [if_pos l, if_pos (by omega)]
          · rw [if_neg l, if_neg (by omega)]
        · rw [if_neg e, if_neg e]

theorem R1_step {w : World} {n : Nat} {thr par m : Nat → Int} {k : Nat} {wr : World} (h : R1 w n thr par m k wr) (hm : m k = 0) :
    R1 w n thr par m (k + 1) ((((wr.setCell ⟨w.heap.size, k, none⟩ (.int .i64 (par k))).setCell ⟨w.heap.size + 1, k * 3, none⟩ (.int .i64 (thr k))).setCell ⟨w.heap.size + 1, k * 3 + 1, none⟩ (.slice none 0 0)).setCell ⟨w.heap.size + 1, k * 3 + 2, none⟩ (.slice none 0 0)) where
  pa := ((((h.pa.set k _).setOther (by simp) _).setOther (by simp) _).setOther (by simp) _).congr (fun i _ => F1_set par k i)
  se := ((((h.se.setOther (by simp) _).set _ _).set _ _).set _ _).congr (fun j _ => F2_set thr k j)
  pl := (((h.pl.setOther (by simp <;> omega) _).setOther (by simp) _).setOther (by simp) _).setOther (by simp) _
  me := ((((h.me.setOther (by simp <;> omega) _).setOther (by simp <;> omega) _).setOther (by simp <;> omega) _).setOther (by simp <;> omega) _).congr (fun i _ => F1_same m k i hm)
  bel := (((h.bel.setCell (by simp) _).setCell (by simp) _).setCell (by simp) _).setCell (by simp) _
  sz := by simpa using h.sz

theorem R1_step' {w : World} {n : Nat} {thr par m : Nat → Int} {k : Nat} {wr : World} (h : R1 w n thr par m k wr) :
    R1 w n thr par m (k + 1) (((((wr.setCell ⟨w.heap.size, k, none⟩ (.int .i64 (par k))).setCell ⟨w.heap.size + 1, k * 3, none⟩ (.int .i64 (thr k))).setCell ⟨w.heap.size + 1, k * 3 + 1, none⟩ (.slice none 0 0)).setCell ⟨w.heap.size + 1, k * 3 + 2, none⟩ (.slice none 0 0)).setCell ⟨w.heap.size + 1 + 1 + 1, k, none⟩ (.int .i64 (m k))) where
  pa := (((((h.pa.set k _).setOther (by simp) _).setOther (by simp) _).setOther (by simp) _).setOther (by simp <;> omega) _).congr (fun i _ => F1_set par k i)
  se := (((((h.se.setOther (by simp) _).set _ _).set _ _).set _ _).setOther (by simp <;> omega) _).congr (fun j _ => F2_set thr k j)
  pl := ((((h.pl.setOther (by simp <;> omega) _).setOther (by simp) _).setOther (by simp) _).setOther (by simp) _).setOther (by simp) _
  me := (((((h.me.setOther (by simp <;> omega) _).setOther (by simp <;> omega) _).setOther (by simp <;> omega) _).setOther (by simp <;> omega) _).set _ _).congr (fun i _ => F1_set m k i)
  bel := ((((h.bel.setCell (by simp) _).setCell (by simp) _).setCell (by simp) _).setCell (by simp) _).setCell (by simp <;> omega) _
  sz := by simpa using h.sz

theorem rowIs_made3 (w : World) (z0 z1 z2 : Value) (n : Nat) (t : TypeId) (f : Nat → Value) (hf : ∀ j, f j = if j % 3 = 0 then z0 else if j % 3 = 1 then z1 else z2) :
    (w.alloc (.cells (madeCells #[z0, z1, z2] (n * 3)) t)).rowIs w.heap.size t (n * 3) f :=
  ⟨_, Deep.blk_alloc_new _ _, size_madeCells _ _, fun i hi => by
    simp only [madeCells, Array.getElem?_map, Array.getElem?_range, hi, Option.map_some, hf, if_true]
    rcases (show i % 3 = 0 ∨ i % 3 = 1 ∨ i % 3 = 2 by omega) with e | e | e <;> simp [e]⟩

theorem R1_start (w : World) (n : Nat) (thr par m : Nat → Int) :
    R1 w n thr par m 0 ((((w.alloc (.cells (madeCells #[.int .i64 0] n) 3)).alloc (.cells (madeCells #[.int .i64 0, .slice none 0 0, .slice none 0 0] (n * 3)) 28)).alloc
      (.cells (madeCells #[.int .i64 0, .pointer none, .int .i64 0] (n * 3)) 31)).alloc (.cells (madeCells #[.int .i64 0] n) 3)) where
  pa := ((((World.rowIs_made w _ n 3).alloc _).alloc _).alloc _).congr (fun i _ => by simp [F1])
  se := by
    have h := rowIs_made3 (w.alloc (.cells (madeCells #[.int .i64 0] n) 3)) (.int .i64 0) (.slice none 0 0) (.slice none 0 0) n 28 (F2 thr 0) (fun j => by simp [F2])
    simp only [World.size_alloc] at h
    exact (h.alloc _).alloc _
  pl := by
    have h := rowIs_made3 ((w.alloc (.cells (madeCells #[.int .i64 0] n) 3)).alloc (.cells (madeCells #[.int .i64 0, .slice none 0 0, .slice none 0 0] (n * 3)) 28)) (.int .i64 0) (.pointer none) (.int .i64 0) n 31 (F3 (w.heap.size + 1) par 0) (fun j => by simp [F3])
    simp only [World.size_alloc] at h
    exact h.alloc _
  me := by
    have h := World.rowIs_made (((w.alloc (.cells (madeCells #[.int .i64 0] n) 3)).alloc (.cells (madeCells #[.int .i64 0, .slice none 0 0, .slice none 0 0] (n * 3)) 28)).alloc
      (.cells (madeCells #[.int .i64 0, .pointer none, .int .i64 0] (n * 3)) 31)) (.int .i64 0) n 3
    simp only [World.size_alloc] at h
    exact h.congr (fun i _ => by simp [F1])
  bel := ((((Below.refl _ _).alloc (Nat.le_refl _) _).alloc (by simp) _).alloc (by simp <;> omega) _).alloc (by simp <;> omega) _
  sz := by simp

theorem Rd_kept {N : Nat} {w wr : World} {a : Option Addr} {len : Nat} {z : Nat → Int} (h : Rd N w a len z) (hb : Below N w wr) : Rd N wr a len z := fun i hi => by
  obtain ⟨b, off, e, hbN, hc⟩ := h i hi
  exact ⟨b, off, e, hbN, (hb.cell hbN).trans hc⟩


theorem F3_set (B : Nat) (par : Nat → Int) (k j : Nat) :
    (if j = k * 3 + 2 then Value.int .i64 (par k) else if j = k * 3 + 1 then Value.pointer (some ⟨B, k * 3, none⟩) else if j = k * 3 then Value.int .i64 0 else F3 B par k j) = F3 B par (k + 1) j := by
  unfold F3
  by_cases h2 : j = k * 3 + 2
  · rw [if_pos h2, if_neg (by omega), if_neg (by omega), if_pos (by omega), show j / 3 = k from by omega]
  · rw [if_neg h2]
    by_cases h1 : j = k * 3 + 1
    · rw [if_pos h1, if_neg (by omega), if_pos (by omega), if_pos (by omega), show j / 3 = k from by omega]
    · rw [if_neg h1]
      by_cases h0 : j = k * 3
      · rw [if_pos h0, if_pos (by omega)]
      · rw [if_neg h0]
        by_cases e : j % 3 = 0
        · rw [if_pos e, if_pos e]
        · rw [if_neg e, if_neg e]
          by_cases l : j / 3 < k
          · rw [if_pos l, if_pos (show j / 3 < k + 1 by omega), if_pos l, if_pos (show j / 3 < k + 1 by omega)]
          · rw [if_neg l, if_neg (show ¬ j / 3 < k + 1 by omega), if_neg l, if_neg (show ¬ j / 3 < k + 1 by omega)]

/-- the memory at the head of loop 2's round k -/
structure R2 (w : World) (n : Nat) (thr par m : Nat → Int) (k : Nat) (wr : World) : Prop where
  pa : wr.rowIs w.heap.size 3 n (F1 par n)
  se : wr.rowIs (w.heap.size + 1) 28 (n * 3) (F2 thr n)
  pl : wr.rowIs (w.heap.size + 1 + 1) 31 (n * 3) (F3 (w.heap.size + 1) par k)
  me : wr.rowIs (w.heap.size + 1 + 1 + 1) 3 n (F1 m n)
  bel : Below w.heap.size w wr
  sz : wr.heap.size = w.heap.size + 1 + 1 + 1 + 1

theorem R2_start {w : World} {n : Nat} {thr par m : Nat → Int} {wr : World} (h : R1 w n thr par m n wr) : R2 w n thr par m 0 wr := ⟨h.pa, h.se, h.pl, h.me, h.bel, h.sz⟩

theorem R2_step {w : World} {n : Nat} {thr par m : Nat → Int} {k : Nat} {wr : World} (h : R2 w n thr par m k wr) :
    R2 w n thr par m (k + 1) (((wr.setCell ⟨w.heap.size + 1 + 1, k * 3, none⟩ (.int .i64 0)).setCell ⟨w.heap.size + 1 + 1, k * 3 + 1, none⟩ (.pointer (some ⟨w.heap.size + 1, k * 3, none⟩))).setCell ⟨w.heap.size + 1 + 1, k * 3 + 2, none⟩ (.int .i64 (par k))) where
  pa := ((h.pa.setOther (by simp <;> omega) _).setOther (by simp <;> omega) _).setOther (by simp <;> omega) _
  se := ((h.se.setOther (by simp <;> omega) _).setOther (by simp <;> omega) _).setOther (by simp <;> omega) _
  pl := (((h.pl.set _ _).set _ _).set _ _).congr (fun j _ => F3_set _ par k j)
  me := ((h.me.setOther (by simp <;> omega) _).setOther (by simp <;> omega) _).setOther (by simp <;> omega) _
  bel := ((h.bel.setCell (by simp <;> omega) _).setCell (by simp <;> omega) _).setCell (by simp <;> omega) _
  sz := by simpa using h.sz

theorem R2_drew {w : World} {n : Nat} {thr par m : Nat → Int} {k : Nat} {wr : World} (h : R2 w n thr par m k wr) : R2 w n thr par m k wr.drew := ⟨h.pa, h.se, h.pl, h.me, h.bel.drew, h.sz⟩

/-- 'copy' of a whole row of one-cell values into another row of the same length -/
theorem wpList_copy_rows {P : Program} {w : World} {ops : Array Oper} {rest : List Oper} {o : Oper} {a : Act} {Q : Exit → Act → World → Prop} (hgd : o.guard = none) (d s : Operand) (dT sT : TypeId)
    (ho : o.op = .call { callee := .builtin .copy, args := #[d, s], argTypes := #[dT, sT] }) (elem : TypeId) (hu : P.underlying dT = some (.slice elem)) (hsz : (P.info? elem).map (·.size) = some 1)
    (g h n c c' : Nat) (hd : a.eval d = .slice (some ⟨g, 0, none⟩) n c) (hs : a.eval s = .slice (some ⟨h, 0, none⟩) n c') (t t' : TypeId) (f fs : Nat → Value)
    (hg : w.rowIs g t n f) (hh : w.rowIs h t' n fs) (h1 : ∀ j, (fs j).oneCell' = true)
    (hK : ∀ w', w'.rowIs g t n fs → w.grownBy w' (some g) → w'.heap.size = w.heap.size → wpList P ops Q rest (a.put o.dst (goInt n)) w') : wpList P ops Q (o :: rest) a w := by
  obtain ⟨cur, hb, hcs, hcc⟩ := hg
  have hl : ((List.range n).map fs).length = n := by simp
  refine wpList_copy_own hgd d s dT sT ho elem hu hsz g 0 n c ⟨h, 0, none⟩ n c' hd hs cur t hb ((List.range n).map fs) (by simp) (fun j v hv => ?_) (by simp [hcs]) (fun v hv => ?_) ?_
  · have hj : j < n := by
      have := (List.getElem?_eq_some_iff.1 hv).1
      simpa using this
    have := hh.cell hj
    simp [hj] at hv
    subst hv
    rw [add_plain, Nat.zero_add]
    exact this
  · obtain ⟨j, _, rfl⟩ := List.mem_map.1 hv
    exact h1 j
  · rw [hl]
    refine hK _ ⟨_, setRow_heap w g cur _ t (0, 0) hb, ?_, ?_⟩ ⟨rfl, rfl, rfl, by simp, fun k hk hne => setRow_other w g k _ (by simpa using hne)⟩ (by simp)
    · simp [hcs]
    · intro i hi
      rw [show cur.toList.take 0 ++ (List.map fs (List.range n) ++ cur.toList.drop (0 + n)) = List.map fs (List.range n) ++ cur.toList.drop (0 + n) from rfl, List.getElem?_toArray, List.getElem?_append_left (by simpa using hi)]
      simp [hi]

theorem rowIs_grown {w w' : World} {g b : Nat} {t : TypeId} {n : Nat} {f : Nat → Value} (h : w.rowIs b t n f) (hg : w.grownBy w' (some g)) (hne : b ≠ g) : w'.rowIs b t n f :=
  h.of_block (hg.block b h.lt (by simpa using hne))

/-- the tally's seven cells -/
def tCells (B n : Nat) : Array Value := #[.pointer (some ⟨B, 0, none⟩), .slice none 0 0, .slice (some ⟨B + 1, 0, none⟩) n n, .slice none 0 0, .slice none 0 0, .slice none 0 0, .slice none 0 0]

/-- the memory behind the two loops that lay the rows; B: the network's block, B + 1 the counts', B + 2 the tally's -/
structure R3 (w : World) (B n : Nat) (thr par m mt : Nat → Int) (W : World) : Prop where
  pa : W.rowIs w.heap.size 3 n (fun j => .int .i64 (par j))
  se : W.rowIs (w.heap.size + 1) 28 (n * 3) (F2 thr n)
  pl : W.rowIs (w.heap.size + 1 + 1) 31 (n * 3) (F3 (w.heap.size + 1) par n)
  me : W.rowIs (w.heap.size + 1 + 1 + 1) 3 n (fun j => .int .i64 (m j))
  net : W.cell? ⟨B, 3, none⟩ = some (.slice (some ⟨w.heap.size + 1 + 1, 0, none⟩) n n)
  tm : W.rowIs (B + 1) 3 n (fun j => .int .i64 (mt j))
  t : W.heap[B + 1 + 1]? = some (.cells (tCells B n) 70 (0, 0))
  bel : Below w.heap.size w W
  hB : B = w.heap.size + 1 + 1 + 1 + 1

theorem lt_of_cell {W : World} {a : Addr} {v : Value} (h : W.cell? a = some v) : a.block < W.heap.size := by
  by_cases hlt : a.block < W.heap.size
  · exact hlt
  · have : W.heap[a.block]? = none := by simp; omega
    simp [World.cell?, this] at h

theorem R3.size {w : World} {B n : Nat} {thr par m mt : Nat → Int} {W : World} (h : R3 w B n thr par m mt W) : B + 1 + 1 < W.heap.size := lt_of_block h.t

theorem R3.grown {w : World} {B n : Nat} {thr par m mt : Nat → Int} {W W' : World} {row : Option Nat} (h : R3 w B n thr par m mt W) (hg : W.grownBy W' row) (hr : ∀ k, row = some k → B + 1 + 1 + 1 ≤ k) : R3 w B n thr par m mt W' := by
  have hB := h.hB
  have hs := h.size
  have key : ∀ k, k < B + 1 + 1 + 1 → W'.heap[k]? = W.heap[k]? := fun k hk => hg.block k (by omega) (fun e => by have := hr k e.symm; omega)
  exact ⟨h.pa.of_block (key _ (by omega)), h.se.of_block (key _ (by omega)), h.pl.of_block (key _ (by omega)), h.me.of_block (key _ (by omega)),
    (World.cell?_of_block (w := W) (key _ (by show B < _; omega))).trans h.net, h.tm.of_block (key _ (by omega)), (key _ (by omega)).trans h.t, h.bel.trans ⟨hg.os, hg.tape, hg.output, hg.size, fun k hk => key k (by omega)⟩, hB⟩

theorem R3.alloc {w : World} {B n : Nat} {thr par m mt : Nat → Int} {W : World} (h : R3 w B n thr par m mt W) (o : Obj) : R3 w B n thr par m mt (W.alloc o) :=
  h.grown (World.grownBy_alloc W o none) (fun k hk => by cases hk)

theorem R3.cellPa {w : World} {B n : Nat} {thr par m mt : Nat → Int} {W : World} (h : R3 w B n thr par m mt W) {q : Nat} (hq : q < n) : W.cell? ⟨w.heap.size, q, none⟩ = some (.int .i64 (par q)) := h.pa.cell hq

theorem R3_make {w : World} {n : Nat} {thr par m : Nat → Int} {w2 w3 : World} (h : R2 w n thr par m n w2) (net : Array Value) (hnet : net[3]? = some (.slice (some ⟨w.heap.size + 1 + 1, 0, none⟩) n n))
    (h3 : w3.rowIs (w2.heap.size + 1) 3 n (fun j => .int .i64 (m j))) (hg : ((w2.alloc (.cells net 65)).alloc (.cells (madeCells #[.int .i64 0] n) 3)).grownBy w3 (some (w2.heap.size + 1))) (hs3 : w3.heap.size = w2.heap.size + 1 + 1)
    (T : Array Value) (hT : T = tCells w2.heap.size n) : R3 w w2.heap.size n thr par m m (w3.alloc (.cells T 70)) := by
  have hz := h.sz
  have key : ∀ k, k < w2.heap.size → (w3.alloc (.cells T 70)).heap[k]? = w2.heap[k]? := fun k hk => by
    rw [Below.heap_alloc _ _ _ (by omega), hg.block k (by simp; omega) (by simp; omega), Below.heap_alloc _ _ _ (by simp; omega), Below.heap_alloc _ _ _ (by omega)]
  have kn : (w3.alloc (.cells T 70)).heap[w2.heap.size]? = some (.cells net 65 (0, 0)) := by
    rw [Below.heap_alloc _ _ _ (by omega), hg.block _ (by simp <;> omega) (by simp), Below.heap_alloc _ _ _ (by simp)]
    exact Deep.blk_alloc_new _ _
  have kt : (w3.alloc (.cells T 70)).heap[w2.heap.size + 1 + 1]? = some (.cells T 70 (0, 0)) := by rw [← hs3]; exact Deep.blk_alloc_new _ _
  refine ⟨(h.pa.of_block (key _ (by omega))).congr (fun i hi => by simp [F1, hi]), h.se.of_block (key _ (by omega)), h.pl.of_block (key _ (by omega)), (h.me.of_block (key _ (by omega))).congr (fun i hi => by simp [F1, hi]), ?_, h3.alloc _, by rw [kt, hT], ?_, hz⟩
  · simp [World.cell?, kn, hnet]
  · refine h.bel.trans ⟨?_, ?_, ?_, ?_, fun k hk => key k (by omega)⟩
    · exact hg.os
    · exact hg.tape
    · exact hg.output
    · rw [World.size_alloc]; omega

/-- an owned row of numbers that is not empty: its shape and its cells -/
theorem owns_shape {w : World} {base n : Nat} {v : Value} {xs : List Value} (h : w.ownsRow base 3 1 v n xs) (hn : 0 < n) (hx : xs.length = n) :
    ∃ g cap, v = .slice (some ⟨g, 0, none⟩) n cap ∧ base ≤ g ∧ g < w.heap.size ∧ ∀ j u, xs[j]? = some u → w.cell? ⟨g, j, none⟩ = some u := by
  rcases h.2 with ⟨hv, hn0⟩ | ⟨g, cap, cur, rfl, hb, hh, h1, h2, h3, h4⟩
  · subst hn0
    simp at hx
    omega
  · refine ⟨g, cap, rfl, hb, lt_of_block hh, fun j u hu => ?_⟩
    have hj : j < xs.length := (List.getElem?_eq_some_iff.1 hu).1
    have := h.cellAt j (by omega)
    rw [this, hu]

/-- loop 4's memory: exp's row at E, all below E as it was -/
structure R4 (W : World) (E n : Nat) (f : Nat → Int) (wr : World) : Prop where
  ex : wr.rowIs E 3 n (fun j => .int .i64 (f j))
  bel : Below E W wr

theorem R4_step {W : World} {E n : Nat} {f : Nat → Int} {wr : World} (h : R4 W E n f wr) (q : Nat) (x : Int) : R4 W E n (fun j => if j = q then x else f j) (wr.setCell ⟨E, q, none⟩ (.int .i64 x)) :=
  ⟨(h.ex.set q _).congr (fun j _ => by by_cases e : j = q <;> simp [e]), h.bel.setCell (Nat.le_refl _) _⟩

theorem R4_drewN {W : World} {E n : Nat} {f : Nat → Int} {wr : World} (h : R4 W E n f wr) (k : Nat) : R4 W E n f (wr.drewN k) := ⟨rowIs_drewN h.ex k, below_drewN h.bel k⟩

theorem R4.congr {W : World} {E n : Nat} {f g : Nat → Int} {wr : World} (h : R4 W E n f wr) (e : ∀ j, f j = g j) : R4 W E n g wr := ⟨h.ex.congr (fun j _ => by rw [e j]), h.bel⟩

theorem R3.below {w : World} {B n : Nat} {thr par m mt : Nat → Int} {W W' : World} {E : Nat} (h : R3 w B n thr par m mt W) (hb : Below E W W') (hE : B + 1 + 1 + 1 ≤ E) : R3 w B n thr par m mt W' := by
  have hB := h.hB
  have key : ∀ k, k < B + 1 + 1 + 1 → W'.heap[k]? = W.heap[k]? := fun k hk => hb.block k (by omega)
  exact ⟨h.pa.of_block (key _ (by omega)), h.se.of_block (key _ (by omega)), h.pl.of_block (key _ (by omega)), h.me.of_block (key _ (by omega)),
    (World.cell?_of_block (w := W) (key _ (by show B < _; omega))).trans h.net, h.tm.of_block (key _ (by omega)), (key _ (by omega)).trans h.t, h.bel.trans (hb.mono (by omega)), hB⟩

theorem run_equalIn_ptr_same {P : Program} (w : World) (d : Nat) (t e : TypeId) (i : TypeInfo) (a : Addr) (ht : P.underlying t = some (.pointer e)) (hi : P.info? e = some i) (hs : i.size ≠ 0) :
    (Op.equalIn (d + 1) t (.pointer (some a)) (.pointer (some a))).run P w = .ok true w := by
  simp [Op.equalIn, run_underlying ht, sizeOf, typeInfo, hi, run_sameAddr_same]

theorem run_neq_ptr_same {P : Program} (w : World) (t e : TypeId) (i : TypeInfo) (a : Addr) (ht : P.underlying t = some (.pointer e)) (hi : P.info? e = some i) (hs : i.size ≠ 0) :
    (binOp .neq t (.pointer (some a)) (.pointer (some a))).run P w = .ok (.bool false) w := by
  simp only [binOp]
  simp [Op.equal, Op.maxDepth, run_equalIn_ptr_same w 9999 t e i a ht hi hs]

theorem R3.tcell {w : World} {B n : Nat} {thr par m mt : Nat → Int} {W : World} (h : R3 w B n thr par m mt W) {j : Nat} {v : Value} (hv : (tCells B n)[j]? = some v) : W.cell? ⟨B + 1 + 1, j, none⟩ = some v := by
  simp [World.cell?, h.t, hv]

theorem R3.place0 {w : World} {B n : Nat} {thr par m mt : Nat → Int} {W : World} (h : R3 w B n thr par m mt W) {q : Nat} (hq : q < n) : W.cell? ⟨w.heap.size + 1 + 1, q * 3, none⟩ = some (.int .i64 0) := by
  rw [h.pl.cell (i := q * 3) (by omega)]
  unfold F3
  rw [if_pos (by omega)]

theorem R3.place1 {w : World} {B n : Nat} {thr par m mt : Nat → Int} {W : World} (h : R3 w B n thr par m mt W) {q : Nat} (hq : q < n) : W.cell? ⟨w.heap.size + 1 + 1, q * 3 + 1, none⟩ = some (.pointer (some ⟨w.heap.size + 1, q * 3, none⟩)) := by
  rw [h.pl.cell (i := q * 3 + 1) (by omega)]
  unfold F3
  rw [if_neg (by omega), if_pos (by omega), if_pos (by omega), show (q * 3 + 1) / 3 = q by omega]

theorem R3.place2 {w : World} {B n : Nat} {thr par m mt : Nat → Int} {W : World} (h : R3 w B n thr par m mt W) {q : Nat} (hq : q < n) : W.cell? ⟨w.heap.size + 1 + 1, q * 3 + 2, none⟩ = some (.int .i64 (par q)) := by
  rw [h.pl.cell (i := q * 3 + 2) (by omega)]
  unfold F3
  rw [if_neg (by omega), if_neg (by omega), if_pos (by omega), show (q * 3 + 2) / 3 = q by omega]

theorem R3.set0 {w : World} {B n : Nat} {thr par m mt : Nat → Int} {W : World} (h : R3 w B n thr par m mt W) {q : Nat} (hq : q < n) : W.cell? ⟨w.heap.size + 1, q * 3, none⟩ = some (.int .i64 (thr q)) := by
  rw [h.se.cell (i := q * 3) (by omega)]
  unfold F2
  rw [if_pos (by omega), if_pos (by omega), show q * 3 / 3 = q by omega]

theorem raise_R3 {w : World} {B n : Nat} {thr par m : Nat → Int} {X : World} (h : R3 w B n thr par m m X) (hn : n ≤ 1048576) (hpar : ∀ q : Nat, -1 ≤ par q ∧ par q < q) (p : Nat) (hp : p < n) :
    Calls Yba.prog 5 #[.pointer (some ⟨B + 1 + 1, 0, none⟩), .int .i64 p] X fun e w' => e = .returned (.tuple #[]) ∧
      R3 w B n thr par m (Plain.raised (fun x => wrap64 (x + 1)) m (Plain.upto (fun q => wrap64 (m q + 1) != thr q) (Plain.chain par p))) w' ∧ X.grownBy w' (some (B + 1)) ∧ w'.heap.size = X.heap.size := by
  have hB := h.hB
  refine (raise_any n (B + 1 + 1) B (w.heap.size + 1 + 1) (w.heap.size + 1) (B + 1) p thr par m X hn hpar hp (h.tcell rfl) (h.tcell rfl) h.net (fun q hq => h.place1 hq) (fun q hq => h.place2 hq) (fun q hq => h.set0 hq) h.tm (by omega) (by omega) (by omega) (by omega)).mono ?_
  rintro e w' ⟨rfl, h1, h2, h3⟩
  have key : ∀ k, k < X.heap.size → k ≠ B + 1 → w'.heap[k]? = X.heap[k]? := fun k hk hne => h2.block k hk (by simpa using hne)
  have hs := h.size
  exact ⟨rfl, ⟨h.pa.of_block (key _ (by omega) (by omega)), h.se.of_block (key _ (by omega) (by omega)), h.pl.of_block (key _ (by omega) (by omega)), h.me.of_block (key _ (by omega) (by omega)),
    (World.cell?_of_block (w := X) (key B (by omega) (by omega))).trans h.net, h1, (key _ (by omega) (by omega)).trans h.t,
    h.bel.trans ⟨h2.os, h2.tape, h2.output, h2.size, fun k hk => key k (by omega) (by omega)⟩, hB⟩, h2, h3⟩
end Go.Proofs.Ybulkdiom.lawS5485CWhole
