import Derived.Test.YbulkdinkRows
import Derived.WalkKit
import Derived.ProofKit
import Derived.WalkLawsBesides
import Derived.Deep.QuietTactic
import Derived.Deep.LoopGhost
import Derived.BigQuiet
import Derived.BigRegion
import Derived.RegionTactic
import Derived.Deep.RegionWith
import Derived.Laws.Externs
import Derived.Lib.Bytealg
import Derived.StillTailTactics
import Derived.Deep.Cut
import Derived.Deep.OwnRows
import Derived.Deep.CutRange
import Derived.Below
namespace Go.Proofs.Ybulkdink
open Go.ChangeShapes Go.WideShapes Go.ChangeAt Go.RowKit
set_option linter.unusedVariables false
set_option linter.unusedSimpArgs false

/-- the names of a source or a target, by their place in the order of strings -/
def str : Nat → ByteArray
  | 0 => ⟨#[]⟩
  | 1 => ⟨#[97]⟩
  | _ => ⟨#[98]⟩

structure V where
  src : Nat
  tgt : Nat
  s : Int
  t : Int
  sg : Value
  sb : List Int

def V.list (v : V) : List Value := [.string ⟨#[120]⟩, .string (str v.src), .string (str v.tgt), .int .u64 v.s, .int .u64 v.t, v.sg]
abbrev V.val (v : V) : Value := .agg #[.string ⟨#[120]⟩, .string (str v.src), .string (str v.tgt), .int .u64 v.s, .int .u64 v.t, v.sg]

def V.Ok (v : V) : Prop := v.src ≤ 2 ∧ v.tgt ≤ 2

def c1 (a b : Int) : Int := if a < b then -1 else if b < a then 1 else 0
def cor (x y : Int) : Int := if x ≠ 0 then x else y
def cmpV (a b : V) : Int := cor (cor (c1 a.s b.s) (c1 a.t b.t)) (cor (c1 a.src b.src) (c1 a.tgt b.tgt))

/-- the world with draws and new blocks more -/
def ext (w : World) (n : Nat) (os : List Obj) : World := { w with heap := w.heap ++ os.toArray, drawn := w.drawn + n }
def Ext (w w' : World) : Prop := ∃ n os, w' = ext w n os

theorem ext_alloc (w : World) (n : Nat) (os : List Obj) (o : Obj) : (ext w n os).alloc o = ext w n (os ++ [o]) := by
  simp [ext, World.alloc]
theorem ext_drewN (w : World) (n k : Nat) (os : List Obj) : (ext w n os).drewN k = ext w (n + k) os := by simp [ext, World.drewN, Nat.add_assoc]
theorem Ext.refl (w : World) : Ext w w := ⟨0, [], by simp [ext]⟩
theorem Ext.alloc {w w' : World} (h : Ext w w') (o : Obj) : Ext w (w'.alloc o) := by
  obtain ⟨n, os, rfl⟩ := h; exact ⟨n, os ++ [o], ext_alloc ..⟩
theorem Ext.drew {w w' : World} (h : Ext w w') : Ext w w'.drew := by
  obtain ⟨n, os, rfl⟩ := h; exact ⟨n + 1, os, rfl⟩
theorem Ext.drewN {w w' : World} (h : Ext w w') (k : Nat) : Ext w (w'.drewN k) := by
  obtain ⟨n, os, rfl⟩ := h; exact ⟨n + k, os, ext_drewN ..⟩
theorem Ext.trans {a b c : World} (h : Ext a b) (k : Ext b c) : Ext a c := by
  obtain ⟨n, os, rfl⟩ := h
  obtain ⟨m, ps, rfl⟩ := k
  exact ⟨n + m, os ++ ps, by simp [ext, Nat.add_assoc]⟩
theorem ext_block {w : World} {n : Nat} {os : List Obj} {k : Nat} (h : k < w.heap.size) : (ext w n os).heap[k]? = w.heap[k]? := by
  show (w.heap ++ os.toArray)[k]? = _
  rw [Array.getElem?_append_left h]
theorem ext_cell {w : World} {n : Nat} {os : List Obj} {a : Addr} (h : a.block < w.heap.size) : (ext w n os).cell? a = w.cell? a := World.cell?_of_block (ext_block h)

set_option maxRecDepth 100000 in
set_option maxHeartbeats 4000000 in
theorem heights (v : V) (w : World) :
    Calls Yba.prog 39 #[v.val] w fun e w' => e = .returned (.tuple #[.int .u64 v.s, .int .u64 v.t]) ∧ Ext w w' := by
  go_enter Yba.func39, Yba.ntmps39
  go_wp2
  go_quiet (fail)
  go_wp2
  go_ret2
  exact ⟨rfl, ((Ext.refl w).alloc _).drewN _⟩

set_option maxRecDepth 100000 in
set_option maxHeartbeats 4000000 in
theorem isnan (a : Int) (w : World) : Calls Yba.prog 23 #[.int .u64 a] w fun e w' => e = .returned (.bool false) ∧ w' = w := by
  go_enter Yba.func23, Yba.ntmps23
  go_wp2
  go_ret
  exact ⟨rfl, rfl⟩

set_option maxRecDepth 100000 in
set_option maxHeartbeats 4000000 in
theorem cmpu (a b : Int) (w : World) :
    Calls Yba.prog 20 #[.int .u64 a, .int .u64 b] w fun e w' => e = .returned (.int .i64 (c1 a b)) ∧ w' = w := by
  by_cases h : a < b
  · have e : c1 a b = -1 := by simp [c1, h]
    rw [e]
    go_enter Yba.func20, Yba.ntmps20
    go_wp2_with (go_at_call 23; refine (isnan _ _).mono ?_; rintro e w1 ⟨rfl, rfl⟩)
    go_ret
    exact ⟨rfl, rfl⟩
  · by_cases h2 : b < a
    · have e : c1 a b = 1 := by simp [c1, h, h2]
      rw [e]
      go_enter Yba.func20, Yba.ntmps20
      go_wp2_with (go_at_call 23; refine (isnan _ _).mono ?_; rintro e w1 ⟨rfl, rfl⟩)
      go_ret
      exact ⟨rfl, rfl⟩
    · have e : c1 a b = 0 := by simp [c1, h, h2]
      rw [e]
      go_enter Yba.func20, Yba.ntmps20
      go_wp2_with (go_at_call 23; refine (isnan _ _).mono ?_; rintro e w1 ⟨rfl, rfl⟩)
      go_ret
      exact ⟨rfl, rfl⟩

set_option maxRecDepth 100000 in
set_option maxHeartbeats 4000000 in
theorem or_any (g : Nat) (x y : Int) (w : World) (h0 : w.cell? ⟨g, 0, none⟩ = some (.int .i64 x)) (h1 : w.cell? ⟨g, 1, none⟩ = some (.int .i64 y)) :
    Calls Yba.prog 19 #[.slice (some ⟨g, 0, none⟩) 2 2] w fun e w' => e = .returned (.int .i64 (cor x y)) ∧ w' = w := by
  go_enter Yba.func19, Yba.ntmps19
  go_wp2
  go_loopg [5, 8] 2 (fun k s5 s8 wr => ∃ i : Nat, i ≤ 2 ∧ k = 2 - i ∧ s8 = .int .i64 i ∧ wr = w ∧ (1 ≤ i → x = 0) ∧ (2 ≤ i → y = 0))
  case atStart => exact ⟨0, by omega, rfl, rfl, rfl, by omega, by omega⟩
  case round =>
    obtain ⟨i, hi, hk, rfl, rfl, hx, hy⟩ := hrel
    have hi3 : i = 0 ∨ i = 1 ∨ i = 2 := by omega
    rcases hi3 with rfl | rfl | rfl
    · by_cases hx0 : x = 0
      · subst hx0
        go_wp2
        go_roundg 1
        case measure => omega
        case rel => exact ⟨1, by omega, rfl, rfl, rfl, fun _ => by first | rfl | trivial, by omega⟩
      · have hxb : (x == 0) = false := beq_eq_false_iff_ne.2 hx0
        have e : cor x y = x := by simp [cor, hx0]
        go_wp2
        go_ret
        exact ⟨by first | rfl | (rw [e]; rfl), rfl⟩
    · obtain rfl := hx (by omega)
      by_cases hy0 : y = 0
      · subst hy0
        go_wp2
        go_roundg 0
        case measure => omega
        case rel => exact ⟨2, by omega, rfl, rfl, rfl, fun _ => by first | rfl | trivial, fun _ => by first | rfl | trivial⟩
      · have hyb : (y == 0) = false := beq_eq_false_iff_ne.2 hy0
        have e : cor 0 y = y := by simp [cor]
        go_wp2
        go_ret
        exact ⟨by first | rfl | (rw [e]; rfl), rfl⟩
    · obtain rfl := hx (by omega)
      obtain rfl := hy (by omega)
      go_wp2
      go_ret
      exact ⟨rfl, rfl⟩

theorem still_tail {P : Program} {id : Nat} {Q : Exit → Act → World → Prop} {a : Act} {w : World} {l : List Oper} (n : Nat) (hm : P.follows .mixedOrders = true) (hB : Region.lexTailB .any l.toArray n = true)
    (h : wpStill P l.toArray w.drew (fun a' => wpList P l.toArray Q (l.drop n) a' w.drew) (l.take n) a) : (Code.region id l.toArray true).wp P Q a w := wp_region_still_tail n hm hB h

theorem two_new (w : World) (o p : Obj) : ((w.alloc o).alloc p).heap[w.heap.size]? = some o ∧ ((w.alloc o).alloc p).heap[w.heap.size + 1]? = some p := by
  have hs : (w.alloc o).heap.size = w.heap.size + 1 := by simp
  refine ⟨(Below.heap_alloc _ _ _ (by rw [hs]; omega)).trans (Deep.blk_alloc_new _ _), ?_⟩
  rw [← hs]
  exact Deep.blk_alloc_new _ _

theorem mixed : Yba.prog.follows .mixedOrders = true := by kernel_rfl

theorem run_cs (a b : ByteArray) (w : World) : (callFunc 45 #[.string a, .string b]).run Yba.prog w = .ok (.value (.int .i64 (Lib.compareBytes a.data.toList b.data.toList))) w := by
  rw [run_callFunc_extern Yba.func45 (by kernel_rfl) (by kernel_rfl) (by kernel_rfl) (e := Extern.BytealgCompare.compare) (by kernel_rfl), Lib.run_compareString]
  rfl

theorem cmp_str {i j : Nat} (hi : i ≤ 2) (hj : j ≤ 2) : Lib.compareBytes (str i).data.toList (str j).data.toList = c1 i j := by
  have hi3 : i = 0 ∨ i = 1 ∨ i = 2 := by omega
  have hj3 : j = 0 ∨ j = 1 ∨ j = 2 := by omega
  rcases hi3 with rfl | rfl | rfl <;> rcases hj3 with rfl | rfl | rfl <;> decide +kernel

set_option maxRecDepth 100000 in
set_option maxHeartbeats 4000000 in
theorem cs44 (i j : Nat) (w : World) (hi : i ≤ 2) (hj : j ≤ 2) : Calls Yba.prog 44 #[.string (str i), .string (str j)] w fun e w' => e = .returned (.int .i64 (c1 i j)) ∧ w' = w := by
  have h := run_cs (str i) (str j)
  rw [cmp_str hi hj] at h
  go_enter Yba.func44, Yba.ntmps44
  go_wp2
  go_ret
  exact ⟨rfl, rfl⟩

set_option maxRecDepth 100000 in
set_option maxHeartbeats 4000000 in
theorem cs43 (i j : Nat) (w : World) (hi : i ≤ 2) (hj : j ≤ 2) : Calls Yba.prog 43 #[.string (str i), .string (str j)] w fun e w' => e = .returned (.int .i64 (c1 i j)) ∧ w' = w := by
  go_enter Yba.func43, Yba.ntmps43
  go_wp2_with (go_at_call 44; refine (cs44 i j _ hi hj).mono ?_; rintro e w1 ⟨rfl, rfl⟩)
  go_ret
  exact ⟨rfl, rfl⟩

set_option maxRecDepth 100000 in
set_option maxHeartbeats 4000000 in
theorem cah (a b : V) (w : World) (ha : a.Ok) (hb : b.Ok) :
    Calls Yba.prog 40 #[a.val, b.val] w fun e w' => e = .returned (.int .i64 (cor (c1 a.src b.src) (c1 a.tgt b.tgt))) ∧ Ext w w' := by
  go_enter Yba.func40, Yba.ntmps40
  go_wp2
  refine still_tail 10 mixed (by kernel_rfl) ?_
  simp only [List.take_succ_cons, List.take_zero, List.drop_succ_cons, List.drop_zero]
  repeat still_step
  still_call (cs43 a.src b.src _ ha.1 hb.1)
  repeat still_step
  still_call (cs43 a.tgt b.tgt _ ha.2 hb.2)
  repeat still_step
  try refine wpStill_nil ?_
  go_wp2_with (go_at_call 19; refine (or_any _ (c1 a.src b.src) (c1 a.tgt b.tgt) _ (by go_simp) (by go_simp)).mono ?_; rintro e w1 ⟨rfl, rfl⟩)
  go_ret
  exact ⟨rfl, by repeat (first | exact Ext.refl _ | apply Ext.drewN | apply Ext.drew | apply Ext.alloc)⟩

theorem m_heights (v : Value) (w : World) : (method 179 29 v "Heights").run Yba.prog w = .ok (39, v) w := by kernel_rfl
/-- the names of the methods that a text calls through an interface -/
def opName (o : Oper) : List String := match o.op with
  | .call c => (match c.callee with
    | .invoke _ nm => [nm]
    | _ => [])
  | _ => []
def names : Code → List String
  | .region _ ops _ => ops.toList.flatMap opName
  | .seq a b => names a ++ names b
  | .cond _ a b => names a ++ names b
  | .block _ a => names a
  | .loop a => names a
  | _ => []
theorem m_cah (v : Value) (w : World) : (method 179 29 v ((names (Yba.f14.body.getD .skip)).getD 2 "")).run Yba.prog w = .ok (40, v) w := by kernel_rfl
theorem m_sig (v : Value) (w : World) : (method 179 29 v ((names (Yba.f13.body.getD .skip)).getD 0 "")).run Yba.prog w = .ok (41, v) w := by kernel_rfl

/-- two boxed votes: every cell of them, whatever is made behind them -/
theorem ext_new (W : World) (n : Nat) (os : List Obj) (o : Obj) : (ext W n (os ++ [o])).heap[(ext W n os).heap.size]? = some o := by
  simp [ext]
theorem ext_zero (W : World) : W = ext W 0 [] := by simp [ext]
theorem from_ext {P : Program} {f : FuncId} {args : Array Value} {v : Value} (h : ∀ w, Calls P f args w fun e w' => e = .returned v ∧ Ext w w') (W : World) (k : Nat) (os : List Obj) :
    Calls P f args (ext W k os) fun e w' => e = .returned v ∧ ∃ k' os', w' = ext W k' os' :=
  (h _).mono fun e w' ⟨he, hE⟩ => ⟨he, Ext.trans ⟨k, os, rfl⟩ hE⟩

structure Boxed (W : World) (g : Nat) (v : V) : Prop where
  c0 : ∀ n os, (ext W n os).cell? ⟨g, 0, none⟩ = some (.string ⟨#[120]⟩)
  c1 : ∀ n os, (ext W n os).cell? ⟨g, 1, none⟩ = some (.string (str v.src))
  c2 : ∀ n os, (ext W n os).cell? ⟨g, 2, none⟩ = some (.string (str v.tgt))
  c3 : ∀ n os, (ext W n os).cell? ⟨g, 3, none⟩ = some (.int .u64 v.s)
  c4 : ∀ n os, (ext W n os).cell? ⟨g, 4, none⟩ = some (.int .u64 v.t)
  c5 : ∀ n os, (ext W n os).cell? ⟨g, 5, none⟩ = some v.sg

theorem Boxed.mk' {W : World} {g : Nat} {v : V} (h : W.heap[g]? = some (.cells #[.string ⟨#[120]⟩, .string (str v.src), .string (str v.tgt), .int .u64 v.s, .int .u64 v.t, v.sg] 29)) : Boxed W g v := by
  have hl : g < W.heap.size := (Array.getElem?_eq_some_iff.1 h).1
  constructor <;> intro n os <;> rw [ext_cell (by exact hl)] <;> simp [World.cell?, h]

set_option maxRecDepth 100000 in
set_option maxHeartbeats 4000000 in
theorem cmpj (a b : V) (w : World) (ha : a.Ok) (hb : b.Ok) :
    Calls Yba.prog 14 #[a.val, b.val] w fun e w' => e = .returned (.int .i64 (cmpV a b)) ∧ Ext w w' := by
  have h1 := m_heights
  have h2 := m_cah
  simp only [Yba.f14, Option.getD_some, names, opName, List.flatMap_cons, List.flatMap_nil, List.nil_append, List.append_nil, List.cons_append, List.getD_cons_succ, List.getD_cons_zero] at h2
  go_enter Yba.func14, Yba.ntmps14
  go_upto_region 1 with fail
  obtain ⟨W, hW⟩ : ∃ W, (w.alloc (Obj.cells #[Value.string ⟨#[120]⟩, Value.string (str a.src), Value.string (str a.tgt), Value.int IntKind.u64 a.s, Value.int IntKind.u64 a.t, a.sg] 29)).alloc (Obj.cells #[Value.string ⟨#[120]⟩, Value.string (str b.src), Value.string (str b.tgt), Value.int IntKind.u64 b.s, Value.int IntKind.u64 b.t, b.sg] 29) = W := ⟨_, rfl⟩
  have hE : Ext w W := hW ▸ ((Ext.refl w).alloc _).alloc _
  rw [hW]
  obtain ⟨ga, hga⟩ : ∃ g, w.heap.size = g := ⟨_, rfl⟩
  obtain ⟨gb, hgb⟩ : ∃ g, w.heap.size + 1 = g := ⟨_, rfl⟩
  have bA : Boxed W ga a := Boxed.mk' (by rw [← hW, ← hga]; exact (two_new w _ _).1)
  have bB : Boxed W gb b := Boxed.mk' (by rw [← hW, ← hgb]; exact (two_new w _ _).2)
  obtain ⟨bA0, bA1, bA2, bA3, bA4, bA5⟩ := bA
  obtain ⟨bB0, bB1, bB2, bB3, bB4, bB5⟩ := bB
  have hal := ext_alloc W
  rw [hgb, hga]
  obtain ⟨W0, k0, o0, hW0⟩ : ∃ W0 k0 o0, W0 = ext W k0 o0 ∧ W0 = W := ⟨W, 0, [], ext_zero W, rfl⟩
  rw [← hW0.2]
  obtain ⟨rfl, hW02⟩ := hW0
  clear hW02
  have F1 := fun k os => from_ext (fun w => heights a w) W k os
  have F2 := fun k os => from_ext (fun w => heights b w) W k os
  have F3 := fun k os => from_ext (fun w => cah a b w ha hb) W k os
  by_cases hz : cor (c1 a.s b.s) (c1 a.t b.t) = 0
  · have hzb : (cor (c1 a.s b.s) (c1 a.t b.t) == 0) = true := by simp [hz]
    go_wp2_with (first | (go_at_call 39; first | (refine (F1 _ _).mono ?_; rintro e w1 ⟨rfl, k1, o1, rfl⟩) | (refine (F2 _ _).mono ?_; rintro e w2 ⟨rfl, k2, o2, rfl⟩)) | (go_at_call 20; refine (cmpu _ _ _).mono ?_; rintro e w3 ⟨rfl, rfl⟩) | (go_at_call 19; refine (or_any _ (c1 a.s b.s) (c1 a.t b.t) _ (by simp [World.cell?, ext_new]) (by simp [World.cell?, ext_new])).mono ?_; rintro e w4 ⟨rfl, rfl⟩) | (go_at_call 40; refine (F3 _ _).mono ?_; rintro e w5 ⟨rfl, k5, o5, rfl⟩))
    go_ret
    have e1 : cmpV a b = cor (c1 a.src b.src) (c1 a.tgt b.tgt) := by unfold cmpV; rw [hz]; simp [cor]
    exact ⟨by rw [e1]; rfl, hE.trans ⟨_, _, rfl⟩⟩
  · have hzb : (cor (c1 a.s b.s) (c1 a.t b.t) == 0) = false := by simp [hz]
    go_wp2_with (first | (go_at_call 39; first | (refine (F1 _ _).mono ?_; rintro e w1 ⟨rfl, k1, o1, rfl⟩) | (refine (F2 _ _).mono ?_; rintro e w2 ⟨rfl, k2, o2, rfl⟩)) | (go_at_call 20; refine (cmpu _ _ _).mono ?_; rintro e w3 ⟨rfl, rfl⟩) | (go_at_call 19; refine (or_any _ (c1 a.s b.s) (c1 a.t b.t) _ (by simp [World.cell?, ext_new]) (by simp [World.cell?, ext_new])).mono ?_; rintro e w4 ⟨rfl, rfl⟩) | (go_at_call 40; refine (F3 _ _).mono ?_; rintro e w5 ⟨rfl, k5, o5, rfl⟩))
    go_ret
    have e1 : cmpV a b = cor (c1 a.s b.s) (c1 a.t b.t) := by unfold cmpV; rw [cor, if_pos hz]
    exact ⟨by rw [e1]; rfl, hE.trans ⟨_, _, rfl⟩⟩

end Go.Proofs.Ybulkdink
