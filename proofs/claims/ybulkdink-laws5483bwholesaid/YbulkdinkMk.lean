import Derived.Test.YbulkdinkZcmp
import Derived.Laws.CopyOwn
import Derived.Deep.WholeRow
namespace Go.Proofs.Ybulkdink
open Go.ChangeShapes Go.WideShapes Go.ChangeAt Go.RowKit
set_option linter.unusedVariables false

def nk (x : Int) : Nat := if x % 3 = 0 then 1 else if x % 3 = 1 then 2 else 0

set_option maxRecDepth 100000 in
set_option maxHeartbeats 4000000 in
theorem name_any (x : Int) (w : World) (h0 : 0 ≤ x) (h1 : x ≤ 255) : Calls Yba.prog 11 #[.int .u8 x] w fun e w' => e = .returned (.string (str (nk x))) ∧ w' = w := by
  unfold nk
  by_cases h : x % 3 = 0
  · have hb : (x % 3 == 0) = true := by simp [h]
    rw [if_pos h]
    go_enter Yba.func11, Yba.ntmps11
    go_wp2
    go_ret
    exact ⟨rfl, rfl⟩
  · have hb : (x % 3 == 0) = false := by simp [h]
    rw [if_neg h]
    by_cases h2 : x % 3 = 1
    · have hb2 : (x % 3 == 1) = true := by simp [h2]
      rw [if_pos h2]
      go_enter Yba.func11, Yba.ntmps11
      go_wp2
      go_ret
      exact ⟨rfl, rfl⟩
    · have hb2 : (x % 3 == 1) = false := by simp [h2]
      rw [if_neg h2]
      go_enter Yba.func11, Yba.ntmps11
      go_wp2
      go_ret
      exact ⟨rfl, rfl⟩

theorem nk_le (x : Int) : nk x ≤ 2 := by unfold nk; split <;> (try split) <;> omega

theorem inf5 : (Yba.prog.info? 5).map (fun i => (i.zero, i.size, i.bytes)) = some (some (.int .u8 0), 1, 1) := by kernel_rfl
theorem inf5s : (Yba.prog.info? 5).map (·.size) = some 1 := by kernel_rfl
theorem und24 : Yba.prog.underlying 24 = some (.slice 5) := by kernel_rfl

set_option maxRecDepth 100000 in
set_option maxHeartbeats 4000000 in
theorem mk_nil (s t : Int) (x y : Int) (w : World) (hx : 0 ≤ x ∧ x ≤ 255) (hy : 0 ≤ y ∧ y ≤ 255) :
    Calls Yba.prog 4 #[.agg #[.int .u64 s, .int .u64 t, .int .u8 x, .int .u8 y, .slice none 0 0]] w fun e w' => e = .returned (V.val ⟨nk x, nk y, s, t, .slice none 0 0, []⟩) ∧ w.grownBy w' none := by
  go_enter Yba.func4, Yba.ntmps4
  go_wp2
  refine still_tail 12 mixed (by kernel_rfl) ?_
  simp only [List.take_succ_cons, List.take_zero, List.drop_succ_cons, List.drop_zero]
  repeat still_step
  still_call (name_any x _ hx.1 hx.2)
  repeat still_step
  still_call (name_any y _ hy.1 hy.2)
  repeat still_step
  try refine wpStill_nil ?_
  go_wp2
  (try simp only [Exit.inBlock, Exit.then])
  refine bodyPost_ret (v := V.val ⟨nk x, nk y, s, t, .slice none 0 0, []⟩) (by simp [results, go_sem]) rfl ?_
  exact ⟨rfl, ⟨rfl, rfl, rfl, by simp; omega, fun k hk _ => (Below.heap_alloc _ _ _ (by simp; omega)).trans (Below.heap_alloc _ _ _ hk)⟩⟩

/-- a vote's signature lies in the world as its bytes say -/
def SigIn (w : World) (v : V) : Prop :=
  (v.sg = .slice none 0 0 ∧ v.sb = []) ∨
  ∃ g, v.sg = .slice (some ⟨g, 0, none⟩) v.sb.length v.sb.length ∧ w.heap[g]? = some (.cells (v.sb.map (Value.int .u8)).toArray 5 (0, 0))

theorem blk_new {w : World} {o : Obj} {k : Nat} (h : k = w.heap.size) : (w.alloc o).heap[k]? = some o := by subst h; exact Deep.blk_alloc_new _ _

theorem made_copy (n : Nat) (cs : List Value) (z : Value) (h : cs.length = n) : ((madeCells #[z] n).toList.take 0 ++ (cs ++ (madeCells #[z] n).toList.drop (0 + cs.length))).toArray = cs.toArray := by
  have : (madeCells #[z] n).toList.drop (0 + cs.length) = [] := by
    rw [List.drop_eq_nil_iff]; simp [size_madeCells, h]
  rw [this]; simp

set_option maxRecDepth 100000 in
set_option maxHeartbeats 4000000 in
theorem mk_some (s t : Int) (x y : Int) (ad : Addr) (c : Nat) (zs : List Int) (w : World) (hx : 0 ≤ x ∧ x ≤ 255) (hy : 0 ≤ y ∧ y ≤ 255) (hn : zs.length ≤ 140737488355328)
    (hc : ∀ i, i < zs.length → w.cell? (ad.add i) = some (.int .u8 (zs.getD i 0))) :
    Calls Yba.prog 4 #[.agg #[.int .u64 s, .int .u64 t, .int .u8 x, .int .u8 y, .slice (some ad) zs.length c]] w fun e w' => (∃ g, w.heap.size ≤ g ∧ e = .returned (V.val ⟨nk x, nk y, s, t, .slice (some ⟨g, 0, none⟩) zs.length zs.length, zs⟩) ∧ w'.heap[g]? = some (.cells (zs.map (Value.int .u8)).toArray 5 (0, 0))) ∧ w.grownBy w' none := by
  obtain ⟨n, hzn⟩ : ∃ n, zs.length = n := ⟨_, rfl⟩
  rw [hzn] at hn hc ⊢
  have hmk := run_make_row' (P := Yba.prog) 24 5 (.int .u8 0) 1 und24 inf5 rfl .i64 .i64 n (by omega) (by omega)
  go_enter Yba.func4, Yba.ntmps4
  go_upto_region 4 with fail
  obtain ⟨W, hW⟩ : ∃ W, (w.alloc (Obj.cells #[Value.int IntKind.u64 s, Value.int IntKind.u64 t, Value.int IntKind.u8 x, Value.int IntKind.u8 y, Value.slice (some ad) n c] 26)).alloc (Obj.cells #[Value.string ⟨#[]⟩, Value.string ⟨#[]⟩, Value.string ⟨#[]⟩, Value.int IntKind.u64 0, Value.int IntKind.u64 0, Value.slice none 0 0] 29) = W := ⟨_, rfl⟩
  have hWs : W.heap.size = w.heap.size + 1 + 1 := by rw [← hW]; simp
  have hcW : ∀ i, i < n → (W.alloc (Obj.cells (madeCells #[Value.int IntKind.u8 0] n) 5)).cell? (ad.add i) = some (.int .u8 (zs.getD i 0)) := fun i hi => by
    have hlt : (ad.add i).block < w.heap.size := by
      rcases Nat.lt_or_ge (ad.add i).block w.heap.size with h | h
      · exact h
      · have h0 := hc i hi
        have : w.heap[(ad.add i).block]? = none := by simp [h]
        simp [World.cell?, this] at h0
    rw [← hc i hi]
    refine World.cell?_of_block ?_
    rw [Below.heap_alloc _ _ _ (by omega), ← hW, Below.heap_alloc _ _ _ (by simp; omega), Below.heap_alloc _ _ _ hlt]
  have hmake : ((madeCells #[Value.int IntKind.u8 0] n).toList.take 0 ++ (zs.map (Value.int .u8) ++ (madeCells #[Value.int IntKind.u8 0] n).toList.drop (0 + (zs.map (Value.int .u8)).length))).toArray = (zs.map (Value.int .u8)).toArray := made_copy n _ _ (by simpa using hzn)
  have hsrc : ∀ j v, (zs.map (Value.int .u8))[j]? = some v → (W.alloc (Obj.cells (madeCells #[Value.int IntKind.u8 0] n) 5)).cell? (ad.add j) = some v := by
    intro j v h
    have hj : j < zs.length := by
      rcases Nat.lt_or_ge j zs.length with h' | h'
      · exact h'
      · simp [h'] at h
    simp [hj] at h
    subst h
    rw [hcW j (by omega), List.getD_eq_getElem?_getD, List.getElem?_eq_getElem hj]
    rfl
  have hnew : (W.alloc (Obj.cells (madeCells #[Value.int IntKind.u8 0] n) 5)).heap[w.heap.size + 1 + 1]? = some (.cells (madeCells #[Value.int IntKind.u8 0] n) 5 (0, 0)) := by rw [← hWs]; exact Deep.blk_alloc_new _ _
  have hset : (W.alloc (Obj.cells (madeCells #[Value.int IntKind.u8 0] n) 5)).setRow (w.heap.size + 1 + 1) (zs.map (Value.int .u8)).toArray = W.alloc (Obj.cells (zs.map (Value.int .u8)).toArray 5) := by rw [← hWs]; exact World.setRow_alloc_new _ _ _ _
  have hlen : (zs.map (Value.int .u8)).length = Nat.min n n := by simpa using hzn
  have hfit : 0 + (zs.map (Value.int .u8)).length ≤ (madeCells #[Value.int IntKind.u8 0] n).size := by simp [size_madeCells, hzn]
  have hone : ∀ v ∈ zs.map (Value.int .u8), v.oneCell' = true := by intro v hv; simp at hv; obtain ⟨_, _, rfl⟩ := hv; rfl
  subst hW
  clear hcW hWs hc hmk
  go_wp2_with (with_reducible show wpList _ _ _ (⟨_, Op.call { callee := Callee.builtin Builtin.copy, args := _, argTypes := _ }, _, _, _, _⟩ :: _) _ _; (refine wpList_copy_own rfl (.tmp 11) (.tmp 13) 24 24 rfl 5 und24 inf5s (w.heap.size + 1 + 1) 0 n n ad n c rfl rfl (madeCells #[Value.int IntKind.u8 0] n) 5 hnew (zs.map (Value.int .u8)) hlen hsrc hfit hone ?_; rw [hmake, hset]))
  clear hmake hlen hfit hone hsrc hnew hset
  refine still_tail 12 mixed (by kernel_rfl) ?_
  simp only [List.take_succ_cons, List.take_zero, List.drop_succ_cons, List.drop_zero]
  repeat still_step
  still_call (name_any x _ hx.1 hx.2)
  repeat still_step
  still_call (name_any y _ hy.1 hy.2)
  repeat still_step
  try refine wpStill_nil ?_
  go_wp2
  (try simp only [Exit.inBlock, Exit.then])
  refine bodyPost_ret (v := V.val ⟨nk x, nk y, s, t, .slice (some ⟨w.heap.size + 1 + 1, 0, none⟩) n n, zs⟩) (by simp [results, go_sem]) rfl ?_
  refine ⟨⟨w.heap.size + 1 + 1, by omega, rfl, ?_⟩, ⟨rfl, rfl, rfl, by simp; omega, fun k hk _ => ?_⟩⟩
  · exact blk_new (w := World.alloc _ _) (by simp)
  · exact (Below.heap_alloc _ _ _ (by simp; omega)).trans ((Below.heap_alloc _ _ _ (by simp; omega)).trans (Below.heap_alloc _ _ _ hk))

/-- what a vote of the script is made of: the cells of the struct that came in -/
def Spec (w : World) (z : Value) : Prop :=
  (∃ s t x y : Int, (0 ≤ x ∧ x ≤ 255) ∧ (0 ≤ y ∧ y ≤ 255) ∧ z = .agg #[.int .u64 s, .int .u64 t, .int .u8 x, .int .u8 y, .slice none 0 0]) ∨
  (∃ (s t x y : Int) (ad : Addr) (c : Nat) (zs : List Int), (0 ≤ x ∧ x ≤ 255) ∧ (0 ≤ y ∧ y ≤ 255) ∧ zs.length ≤ 140737488355328 ∧ (∀ i, i < zs.length → w.cell? (ad.add i) = some (.int .u8 (zs.getD i 0))) ∧
    z = .agg #[.int .u64 s, .int .u64 t, .int .u8 x, .int .u8 y, .slice (some ad) zs.length c])
theorem Spec.nil {w : World} (s t x y : Int) (hx : 0 ≤ x ∧ x ≤ 255) (hy : 0 ≤ y ∧ y ≤ 255) : Spec w (.agg #[.int .u64 s, .int .u64 t, .int .u8 x, .int .u8 y, .slice none 0 0]) := .inl ⟨s, t, x, y, hx, hy, rfl⟩
theorem Spec.some {w : World} (s t x y : Int) (ad : Addr) (c : Nat) (zs : List Int) (hx : 0 ≤ x ∧ x ≤ 255) (hy : 0 ≤ y ∧ y ≤ 255) (hn : zs.length ≤ 140737488355328)
    (hc : ∀ i, i < zs.length → w.cell? (ad.add i) = Option.some (.int .u8 (zs.getD i 0))) : Spec w (.agg #[.int .u64 s, .int .u64 t, .int .u8 x, .int .u8 y, .slice (Option.some ad) zs.length c]) := .inr ⟨s, t, x, y, ad, c, zs, hx, hy, hn, hc, rfl⟩

theorem mk_any (z : Value) (w : World) (hz : Spec w z) :
    Calls Yba.prog 4 #[z] w fun e w' => (∃ v : V, v.Ok ∧ SigIn w' v ∧ e = .returned v.val) ∧ w.grownBy w' none := by
  rcases hz with ⟨s, t, x, y, hx, hy, rfl⟩ | ⟨s, t, x, y, ad, c, zs, hx, hy, hn, hc, rfl⟩
  · exact (mk_nil s t x y w hx hy).mono fun e w' ⟨he, hg⟩ => ⟨⟨_, ⟨nk_le x, nk_le y⟩, .inl ⟨rfl, rfl⟩, he⟩, hg⟩
  · exact (mk_some s t x y ad c zs w hx hy hn hc).mono fun e w' ⟨⟨g, _, he, hb⟩, hg⟩ => ⟨⟨_, ⟨nk_le x, nk_le y⟩, .inr ⟨g, rfl, hb⟩, he⟩, hg⟩

end Go.Proofs.Ybulkdink
