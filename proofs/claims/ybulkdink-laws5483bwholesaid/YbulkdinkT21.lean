import Derived.Test.YbulkdinkHold
namespace Go.Proofs.Ybulkdink
open Go.ChangeShapes Go.WideShapes Go.ChangeAt Go.RowKit
set_option linter.unusedVariables false
set_option linter.unusedSimpArgs false

theorem und35 : Yba.prog.underlying 35 = some (.array 2 23) := by kernel_rfl
theorem und23 : Yba.prog.underlying 23 = some (.int .u64) := by kernel_rfl
theorem siz23 (w : World) : (sizeOf 23).run Yba.prog w = .ok 1 w := by kernel_rfl
theorem prt0 (w : World) (x y : Value) : (part 23 #[x, y] 0).run Yba.prog w = .ok x w := by kernel_rfl
theorem prt1 (w : World) (x y : Value) : (part 23 #[x, y] 1).run Yba.prog w = .ok y w := by kernel_rfl
theorem eq35 (w : World) (a b : Int) : (Op.equalIn 10000 35 (.agg #[.int .u64 a, .int .u64 b]) (.agg #[.int .u64 a, .int .u64 b])).run Yba.prog w = .ok true w := by
  show (Op.equalIn (9998 + 1 + 1) 35 _ _).run Yba.prog w = _
  have h1 : ∀ w, (Op.equalIn 9999 23 (.int .u64 a) (.int .u64 a)).run Yba.prog w = .ok true w := fun w => (run_equalIn_int (P := Yba.prog) w 9998 23 .u64 .u64 a a und23).trans (by simp)
  have h2 : ∀ w, (Op.equalIn 9999 23 (.int .u64 b) (.int .u64 b)).run Yba.prog w = .ok true w := fun w => (run_equalIn_int (P := Yba.prog) w 9998 23 .u64 .u64 b b und23).trans (by simp)
  rw [Op.equalIn]
  simp only [Sem.run_bind, run_underlying und35, Result.andThen_ok, siz23]
  simp [List.range', Sem.run_bind, prt0, prt1, h1, h2]

/-- the text behind the first k statements of a sequence -/
def dropS : Nat → Code → Code
  | 0, c => c
  | k + 1, .seq _ b => dropS k b
  | _, c => c

/-- a sequence, what follows hidden from the walk -/
theorem seq_hid {P : Program} {x y : Code} {Q : Exit → Act → World → Prop} {a : Act} {w : World} (h : ∀ K : Act → World → Prop, Hid (∀ a w, y.wp P Q a w → K a w) → x.wp P (Exit.then K Q) a w) : (Code.seq x y).wp P Q a w := wp_seq_k h

/-- two lists of the same votes are found alike -/
theorem eql_same {base base' : Nat} {w : World} {x y : Value} {xs : List V} (hx : w.ownsRow base 29 6 x xs.length (cellsOf xs)) (hy : w.ownsRow base' 29 6 y xs.length (cellsOf xs)) (hl : xs.length ≤ 1000000) (hs : ∀ u ∈ xs, SigIn w u) :
    ∀ k os, Calls Yba.prog 10 #[x, y] (ext w k os) fun e w' => e = .returned (.bool true) ∧ ∃ q : Pl, w' = ext w q.n q.os := fun k os => by
  have conv : ∀ {e : Ending} {w' : World}, (e = .returned (.bool true) ∧ Ext (ext w k os) w') → (e = .returned (.bool true) ∧ ∃ q : Pl, w' = ext w q.n q.os) := fun ⟨he, hE⟩ => by
    obtain ⟨k', os', hw⟩ := Ext.trans ⟨k, os, rfl⟩ hE
    exact ⟨he, ⟨k', os'⟩, hw⟩
  by_cases h0 : xs.length = 0
  · obtain ⟨a, c, rfl⟩ := owns_form hx
    obtain ⟨a', c', rfl⟩ := owns_form hy
    rw [h0]
    exact (eqlist_empty a a' c c' _).mono fun e w' h => conv h
  · obtain ⟨g, c, rfl, _, _⟩ := hx.form (by omega)
    obtain ⟨g', c', rfl, _, _⟩ := hy.form (by omega)
    have o1 : Own w g c xs := (own_of_owns (owns_zero hx)).2
    have o2 : Own w g' c' xs := (own_of_owns (owns_zero hy)).2
    refine (eqlist_any g g' xs.length c c' (nth xs) _ hl (o1.row.ext k os) (o2.row.ext k os) (fun i hi => (hs _ (nth_mem hi)).ext k os)).mono fun e w' h => conv h

/-- a copy of the runs: outer row and rows -/
structure Runs (lo : Nat) (w : World) (pv : Value) (n : Nat) (G C : Nat → Nat) (R : Nat → List V) : Prop where
  own : w.ownsRow lo 27 1 pv n (ents G C R n)
  rows : ∀ i, i < n → Own w (G i) (C i) (R i)
  gb : ∀ i, i < n → lo ≤ G i
  inj : ∀ i j, i < j → j < n → G i ≠ G j

theorem Runs.pcell {lo : Nat} {w : World} {n gp cp : Nat} {G C : Nat → Nat} {R : Nat → List V} (H : Runs lo w (.slice (some ⟨gp, 0, none⟩) n cp) n G C R) (i : Nat) (hi : i < n) :
    ∀ k os, (ext w k os).cell? ⟨gp, i, none⟩ = some (ent G C R i) := fun k os => by
  have hl := (H.own.lt gp rfl).2
  rw [ext_cell (by exact hl)]
  have := H.own.cells (g := gp) rfl i _ (ents_at G C R n i hi)
  rwa [Addr.add_lit, Nat.zero_add] at this

/-- where the law stands ahead of its verdict -/
structure Done (base : Nat) (w : World) (h : Nat) (vv pv xv : Value) (vs : List V) (n gx cx bt : Nat) (G C Gx Cx : Nat → Nat) (R : Nat → List V) (t0 t1 : Int) : Prop where
  hist : Hist base w h vv pv vs n G C R t0 t1
  xown : w.ownsRow 0 29 6 xv vs.length (cellsOf vs)
  runs : Runs 0 w (.slice (some ⟨gx, 0, none⟩) n cx) n Gx Cx R
  top : w.heap[bt]? = some (.cells #[.int .u64 t0, .int .u64 t1] 35 (0, 0))
  vsig : ∀ u ∈ vs, SigIn w u
  rsig : ∀ i, i < n → ∀ u ∈ R i, SigIn w u
  vlen : vs.length ≤ 1000000
  rlen : ∀ i, i < n → (R i).length ≤ 1000000
  nb : n ≤ 1000000
  ne : ∀ i, i < n → 0 < (R i).length

set_option maxRecDepth 100000 in
set_option maxHeartbeats 8000000 in
theorem t21 {u0 u1 u2 u3 u4 u5 u6 u7 u8 u9 u10 u11 u12 u13 u15 u16 u17 u18 u19 u20 u21 u27 u28 u29 u30 u31 u32 u33 u34 u35 u36 u37 u38 u39 u40 u41 u42 u43 u44 u45 u46 u47 u48 u49 u50 u51 u52 u53 u54 u55 u56 u57 u58 u59 u60 u61 u62 u63 u64 u65 u66 u67 u68 u69 u70 u71 u72 u73 u74 u75 u76 u77 u78 u79 u80 u81 u82 u83 u84 u85 u86 u87 u88 u89 u90 u91 u92 u93 u94 u95 u96 u97 u98 u99 u100 u101 u102 u103 u104 u105 u106 u107 u108 u109 u110 u111 u112 u113 u114 u115 u116 u117 u118 u119 u120 u121 u122 u123 u124 u125 u126 u127 u128 u129 u130 u131 u132 u133 u134 u135 u136 u137 u138 u139 u140 u141 u142 u143 u144 u145 u146 u147 u148 u149 u150 u151 u152 u153 u154 u155 u156 u157 u158 u159 u160 u161 u162 u163 u164 u165 u166 u167 u168 u169 u170 u171 u172 u173 u174 u175 u176 u177 u178 u179 u180 u181 u182 u183 u184 u185 u186 u187 u188 u189 u190 u191 u192 u193 u194 u195 u196 u197 u198 u199 u200 u201 u202 u203 u204 u205 u206 u207 u208 u209 u210 u211 u212 u213 u214 u215 u216 u217 u218 u219 u220 u221 u222 u223 u224 u225 u226 u227 u228 u229 u230 u231 u232 u233 u234 u235 u236 u237 u238 u239 u240 u241 u242 u243 u244 u245 u246 u247 u248 u249 u250 u251 u252 u253 u254 u255 u256 u257 u258 u259 u260 u261 u262 u263 u264 u265 u266 u267 u268 u269 u270 u271 u272 u273 u274 u275 u276 u277 u278 u279 u280 u281 u282 u283 u284 u285 u286 u287 u288 u289 u290 u291 u292 u293 u294 u295 u296 u297 u298 u299 u300 u301 u302 u303 u304 u305 u306 u307 u308 u309 u310 u311 u312 u313 u314 u315 u316 u317 u318 u319 u320 u321 u322 u323 u324 u325 u326 u327 u328 u329 u330 u331 u332 u333 u334 u335 u336 u337 u338 u339 u340 u341 u342 u343 u344 u345 u346 u347 u348 u349 u350 u351 u352 u353 u354 u355 u356 u357 u358 u359 u360 u361 u362 u363 u364 u365 u366 u367 u368 u369 u370 u371 u372 u373 u374 u375 u376 u377 u378 u379 u380 u381 u382 u383 u384 u385 u386 u387 u388 u389 u390 u391 u392 u393 u394 u395 u396 u397 u398 u399 u400 u401 u402 u403 u404 u405 u406 u407 u408 u409 u410 u411 u412 u413 u414 u415 u416 : Value} (POST : Ending → World → Prop) (base : Nat) (w : World) (h : Nat) (vv pv xv : Value) (vs : List V) (n gx cx bt : Nat) (G C Gx Cx : Nat → Nat) (R : Nat → List V) (t0 t1 : Int) (got : Bool) (D : Done base w h vv pv xv vs n gx cx bt G C Gx Cx R t0 t1) (hP : ∀ w', Ext w w' → POST (.returned (.bool true)) w') :
    Code.wp Yba.prog (dropS 21 (Yba.f3.body.getD .skip)) (bodyPost Yba.prog Yba.f3 POST) { tmps := #[u0, u1, u2, u3, u4, u5, u6, u7, u8, u9, u10, u11, u12, u13, (.pointer (some ⟨h, 0, none⟩)), u15, u16, u17, u18, u19, u20, u21, (.bool got), xv, (.slice (some ⟨gx, 0, none⟩) n cx), (.pointer (some ⟨bt, 0, none⟩)), (.bool got), u27, u28, u29, u30, u31, u32, u33, u34, u35, u36, u37, u38, u39, u40, u41, u42, u43, u44, u45, u46, u47, u48, u49, u50, u51, u52, u53, u54, u55, u56, u57, u58, u59, u60, u61, u62, u63, u64, u65, u66, u67, u68, u69, u70, u71, u72, u73, u74, u75, u76, u77, u78, u79, u80, u81, u82, u83, u84, u85, u86, u87, u88, u89, u90, u91, u92, u93, u94, u95, u96, u97, u98, u99, u100, u101, u102, u103, u104, u105, u106, u107, u108, u109, u110, u111, u112, u113, u114, u115, u116, u117, u118, u119, u120, u121, u122, u123, u124, u125, u126, u127, u128, u129, u130, u131, u132, u133, u134, u135, u136, u137, u138, u139, u140, u141, u142, u143, u144, u145, u146, u147, u148, u149, u150, u151, u152, u153, u154, u155, u156, u157, u158, u159, u160, u161, u162, u163, u164, u165, u166, u167, u168, u169, u170, u171, u172, u173, u174, u175, u176, u177, u178, u179, u180, u181, u182, u183, u184, u185, u186, u187, u188, u189, u190, u191, u192, u193, u194, u195, u196, u197, u198, u199, u200, u201, u202, u203, u204, u205, u206, u207, u208, u209, u210, u211, u212, u213, u214, u215, u216, u217, u218, u219, u220, u221, u222, u223, u224, u225, u226, u227, u228, u229, u230, u231, u232, u233, u234, u235, u236, u237, u238, u239, u240, u241, u242, u243, u244, u245, u246, u247, u248, u249, u250, u251, u252, u253, u254, u255, u256, u257, u258, u259, u260, u261, u262, u263, u264, u265, u266, u267, u268, u269, u270, u271, u272, u273, u274, u275, u276, u277, u278, u279, u280, u281, u282, u283, u284, u285, u286, u287, u288, u289, u290, u291, u292, u293, u294, u295, u296, u297, u298, u299, u300, u301, u302, u303, u304, u305, u306, u307, u308, u309, u310, u311, u312, u313, u314, u315, u316, u317, u318, u319, u320, u321, u322, u323, u324, u325, u326, u327, u328, u329, u330, u331, u332, u333, u334, u335, u336, u337, u338, u339, u340, u341, u342, u343, u344, u345, u346, u347, u348, u349, u350, u351, u352, u353, u354, u355, u356, u357, u358, u359, u360, u361, u362, u363, u364, u365, u366, u367, u368, u369, u370, u371, u372, u373, u374, u375, u376, u377, u378, u379, u380, u381, u382, u383, u384, u385, u386, u387, u388, u389, u390, u391, u392, u393, u394, u395, u396, u397, u398, u399, u400, u401, u402, u403, u404, u405, u406, u407, u408, u409, u410, u411, u412, u413, u414, u415, u416], defers := [] } w := by
  have DH : Hid (Done base w h vv pv xv vs n gx cx bt G C Gx Cx R t0 t1) := D
  have PH : Hid (∀ w', Ext w w' → POST (.returned (.bool true)) w') := hP
  clear D hP
  have hPl := Pl.some
  obtain ⟨ap, cp, hpv⟩ := owns_form DH.out.hist.pown
  have hpvH : Hid (pv = .slice ap n cp) := hpv
  obtain ⟨c0, c1, c2, c3, c4, c5, c6, c7⟩ := DH.out.hist.cells.at
  rw [hpv] at c2
  have tl : bt < w.heap.size := (Array.getElem?_eq_some_iff.1 DH.out.top).1
  have b0 : ∀ k os, (ext w k os).cell? ⟨bt, 0, none⟩ = some (.int .u64 t0) := fun k os => (ext_cell (by exact tl)).trans ((cell_cells DH.out.top _).trans rfl)
  have b1 : ∀ k os, (ext w k os).cell? ⟨bt, 1, none⟩ = some (.int .u64 t1) := fun k os => (ext_cell (by exact tl)).trans ((cell_cells DH.out.top _).trans rfl)
  have F := eql_same DH.out.hist.vown DH.out.xown DH.out.vlen DH.out.vsig
  clear hpv tl
  obtain ⟨W0, k0, o0, hW0⟩ : ∃ W0 k0 o0, W0 = ext w k0 o0 ∧ W0 = w := ⟨w, 0, [], ext_zero w, rfl⟩
  rw [← hW0.2]
  obtain ⟨rfl, hW02⟩ := hW0
  clear hW02
  obtain ⟨Q, hQ⟩ : ∃ Q, bodyPost Yba.prog Yba.f3 POST = Q := ⟨_, rfl⟩
  rw [hQ]
  simp only [Yba.f3, Option.getD_some, dropS]
  subst hQ
  have h35 := fun w => eq35 w t0 t1
  go_upto_region 81 with fail
  refine region_ext mixed (by kernel_rfl) ?_
  repeat (open Go.BigFrame in go_big_quiet_step ((go_at_call 10; exact F _ _)))
  refine wpQuiet_nil ?_
  rintro _ ⟨q, rfl⟩
  clear F
  go_wp2
  go_loopg [38] n (fun d s38 wr => ∃ (i k : Nat) (os : List Obj), i ≤ n ∧ d = n - i ∧ s38 = .int .i64 i ∧ wr = ext w k os)
  case atStart => exact ⟨0, _, _, Nat.zero_le _, rfl, rfl, rfl⟩
  case round =>
    obtain ⟨i, k, os, hin, hd, rfl, rfl⟩ := hrel
    have hnb := DH.out.nb
    by_cases hi : i < n
    · have hi' : (i : Int) < (n : Int) := by omega
      have F := eql_same (owns_based (DH.out.hist.rows i hi) (Nat.zero_le _)) (owns_based (DH.out.runs.rows i hi) (Nat.zero_le _)) (DH.out.rlen i hi) (DH.out.rsig i hi)
      obtain ⟨gp, cp', hpf, _, _⟩ := DH.out.hist.pown.form (by omega)
      have hap : ap = some ⟨gp, 0, none⟩ := by have := hpvH.out; rw [hpf] at this; cases this; rfl
      have hcp : cp' = cp := by have := hpvH.out; rw [hpf] at this; cases this; rfl
      subst hap
      subst hcp
      have pc := Hist.pcell (base := base) (w := w) (h := h) (vv := vv) (vs := vs) (n := n) (gp := gp) (cp := cp') (G := G) (C := C) (R := R) (t0 := t0) (t1 := t1) (by have := DH.out.hist; rw [hpf] at this; exact this) i hi
      have xc := DH.out.runs.pcell i hi
      simp only [ent] at pc xc
      go_wp2
      refine region_ext mixed (by kernel_rfl) ?_
      repeat (open Go.BigFrame in go_big_quiet_step ((go_at_call 10; exact F _ _)))
      refine wpQuiet_nil ?_
      rintro _ ⟨q, rfl⟩
      go_wp2
      go_roundg (n - (i + 1))
      case measure => omega
      case rel => exact ⟨i + 1, _, _, by omega, rfl, by go_num, rfl⟩
    · have hi' : ¬ (i : Int) < (n : Int) := by omega
      go_wp2
      exact PH.out _ ⟨_, _, rfl⟩

end Go.Proofs.Ybulkdink
