import Derived.Test.YbulkdinkTA
namespace Go.Proofs.Ybulkdink
open Go.ChangeShapes Go.WideShapes Go.ChangeAt Go.RowKit
set_option linter.unusedVariables false
set_option linter.unusedSimpArgs false

theorem EI.keepTop {base : Nat} {w w' : World} {h : Nat} {vv pv xv : Value} {vs : List V} {n gq : Nat} {Gq Cq : Nat → Nat} {R : Nat → List V} {B : Nat} {v : V} {G C : Nat → Nat} {T : List V} {m bt : Nat} {t0 t1 : Int} {c : Array Value}
    (E : EI base w h vv pv xv vs n gq Gq Cq R B v G C T m t0 t1) (k : Keep (· = bt) w w') (hb : w.heap[bt]? = some (.cells c 35 (0, 0))) (hB : B ≠ bt) : EI base w' h vv pv xv vs n gq Gq Cq R B v G C T m t0 t1 := by
  have sig : ∀ i c fz, i = bt → w.heap[i]? ≠ some (.cells c 5 fz) := fun i c fz e he => by subst e; rw [hb] at he; simp at he
  have own : ∀ {g cap : Nat} {xs : List V}, Own w g cap xs → g ≠ bt := fun h e => by obtain ⟨c, hc, _⟩ := h; rw [e, hb] at hc; simp at hc
  have row : ∀ {b e s n : Nat} {y : Value} {ys : List Value}, w.ownsRow b e s y n ys → e ≠ 35 → ∀ i, y.ownBlock = some i → i ≠ bt := fun h he i hi e => by
    obtain ⟨c, hc⟩ := owns_type h hi
    rw [e, hb] at hc
    simp at hc
    exact he hc.2.symm
  refine ⟨E.hist.keep k ?_, owns_of_block E.xown fun i hi => k.block i (E.xown.lt i hi).2 (row E.xown (by decide) i hi), E.runs.keep k (row E.runs.own (by decide)) (fun i hi => own (E.runs.rows i hi)), E.box.keep E.bl k hB, Nat.lt_of_lt_of_le E.bl k.size,
    E.good.world fun u hu => hu.keep k sig, E.vok, E.vsig.keep k sig, E.noc, E.mn, E.srt, E.perm, E.st, Nat.le_trans E.bb k.size⟩
  rintro i (rfl | hi | hi | ⟨j, hj, rfl⟩) e
  · have := E.hist.cells; unfold HCells at this; rw [e, hb] at this; simp at this
  · exact row E.hist.vown (by decide) i hi e
  · exact row E.hist.pown (by decide) i hi e
  · exact own (E.hist.rows j hj) e

set_option maxRecDepth 100000 in
set_option maxHeartbeats 8000000 in
theorem e0 {u0 u1 u2 u3 u4 u5 u6 u7 u8 u9 u10 u11 u12 u13 u15 u16 u17 u24 u27 u28 u29 u30 u31 u32 u33 u34 u35 u36 u37 u38 u39 u40 u41 u42 u43 u44 u45 u46 u47 u48 u49 u50 u51 u52 u53 u54 u55 u56 u57 u58 u59 u60 u61 u62 u63 u64 u65 u66 u67 u68 u69 u70 u71 u72 u73 u74 u75 u76 u77 u78 u79 u80 u81 u82 u83 u84 u85 u86 u87 u88 u89 u90 u91 u92 u93 u94 u95 u96 u97 u98 u99 u100 u101 u102 u103 u104 u105 u106 u107 u108 u109 u110 u111 u112 u113 u114 u115 u116 u117 u118 u119 u120 u121 u122 u123 u124 u125 u126 u127 u128 u129 u130 u131 u132 u133 u134 u135 u136 u137 u138 u139 u140 u141 u142 u143 u144 u145 u146 u147 u148 u149 u150 u151 u152 u153 u154 u155 u156 u157 u158 u159 u160 u161 u162 u163 u164 u165 u166 u167 u168 u169 u170 u171 u172 u173 u174 u175 u176 u177 u178 u179 u180 u181 u182 u183 u184 u185 u186 u187 u188 u189 u190 u191 u192 u193 u194 u195 u196 u197 u198 u199 u200 u201 u202 u203 u204 u205 u206 u207 u208 u209 u210 u211 u212 u213 u214 u215 u216 u217 u218 u219 u220 u221 u222 u223 u224 u225 u226 u227 u228 u229 u230 u231 u232 u233 u234 u235 u236 u237 u238 u239 u240 u241 u242 u243 u244 u245 u246 u247 u248 u249 u250 u251 u252 u253 u254 u255 u256 u257 u258 u259 u260 u261 u262 u263 u264 u265 u266 u267 u268 u269 u270 u271 u272 u273 u274 u275 u276 u277 u278 u279 u280 u281 u282 u283 u284 u285 u286 u287 u288 u289 u290 u291 u292 u293 u294 u295 u296 u297 u298 u299 u300 u301 u302 u303 u304 u305 u306 u307 u308 u309 u310 u311 u312 u313 u314 u315 u316 u317 u318 u319 u320 u321 u322 u323 u324 u325 u326 u327 u328 u329 u330 u331 u332 u333 u334 u335 u336 u337 u338 u339 u340 u341 u342 u343 u344 u345 u346 u347 u348 u349 u350 u351 u352 u353 u354 u355 u356 u357 u358 u359 u360 u361 u362 u363 u364 u365 u366 u367 u368 u369 u370 u371 u372 u373 u374 u375 u376 u377 u378 u379 u380 u381 u382 u383 u384 u385 u386 u387 u388 u389 u390 u391 u392 u393 u394 u395 u396 u397 u398 u399 u400 u401 u402 u403 u404 u405 u406 u407 u408 u409 u410 u411 u412 u413 u414 u415 u416 : Value} (POST : Ending → World → Prop) (K : Act → World → Prop) (hK : Hid (∀ a w, Code.wp Yba.prog (dropS 21 (Yba.f3.body.getD .skip)) (bodyPost Yba.prog Yba.f3 POST) a w → K a w)) (base : Nat) (w : World) (h : Nat) (vv pv xv : Value) (vs : List V) (n gq : Nat) (Gq Cq : Nat → Nat) (R : Nat → List V) (B : Nat) (v : V) (G C : Nat → Nat) (T : List V) (m bt bo cv : Nat) (av : Option Addr) (t0 t1 T0 T1 : Int)
    (hT : T0 = (if abv vs.length n t0 t1 v then v.s else t0) ∧ T1 = (if abv vs.length n t0 t1 v then v.t else t1))
    (E : EI base w h vv pv xv vs n gq Gq Cq R B v G C T m T0 T1) (otop : w.heap[bo]? = some (.cells #[.int .u64 t0, .int .u64 t1] 35 (0, 0))) (top : w.heap[bt]? = some (.cells #[.int .u64 t0, .int .u64 t1] 35 (0, 0))) (hBt : B ≠ bt) (hbb : base ≤ bt) (pp : PP base POST w) :
    Code.wp Yba.prog (pickE (dropS 20 (Yba.f3.body.getD .skip))) (Exit.then K (bodyPost Yba.prog Yba.f3 POST)) { tmps := #[u0, u1, u2, u3, u4, u5, u6, u7, u8, u9, u10, u11, u12, u13, (.pointer (some ⟨h, 0, none⟩)), u15, u16, u17, (.slice av vs.length cv), (.slice (some ⟨gq, 0, none⟩) n n), (.pointer (some ⟨bo, 0, none⟩)), (.pointer (some ⟨B, 0, none⟩)), (.bool true), xv, u24, (.pointer (some ⟨bt, 0, none⟩)), (.bool true), u27, u28, u29, u30, u31, u32, u33, u34, u35, u36, u37, u38, u39, u40, u41, u42, u43, u44, u45, u46, u47, u48, u49, u50, u51, u52, u53, u54, u55, u56, u57, u58, u59, u60, u61, u62, u63, u64, u65, u66, u67, u68, u69, u70, u71, u72, u73, u74, u75, u76, u77, u78, u79, u80, u81, u82, u83, u84, u85, u86, u87, u88, u89, u90, u91, u92, u93, u94, u95, u96, u97, u98, u99, u100, u101, u102, u103, u104, u105, u106, u107, u108, u109, u110, u111, u112, u113, u114, u115, u116, u117, u118, u119, u120, u121, u122, u123, u124, u125, u126, u127, u128, u129, u130, u131, u132, u133, u134, u135, u136, u137, u138, u139, u140, u141, u142, u143, u144, u145, u146, u147, u148, u149, u150, u151, u152, u153, u154, u155, u156, u157, u158, u159, u160, u161, u162, u163, u164, u165, u166, u167, u168, u169, u170, u171, u172, u173, u174, u175, u176, u177, u178, u179, u180, u181, u182, u183, u184, u185, u186, u187, u188, u189, u190, u191, u192, u193, u194, u195, u196, u197, u198, u199, u200, u201, u202, u203, u204, u205, u206, u207, u208, u209, u210, u211, u212, u213, u214, u215, u216, u217, u218, u219, u220, u221, u222, u223, u224, u225, u226, u227, u228, u229, u230, u231, u232, u233, u234, u235, u236, u237, u238, u239, u240, u241, u242, u243, u244, u245, u246, u247, u248, u249, u250, u251, u252, u253, u254, u255, u256, u257, u258, u259, u260, u261, u262, u263, u264, u265, u266, u267, u268, u269, u270, u271, u272, u273, u274, u275, u276, u277, u278, u279, u280, u281, u282, u283, u284, u285, u286, u287, u288, u289, u290, u291, u292, u293, u294, u295, u296, u297, u298, u299, u300, u301, u302, u303, u304, u305, u306, u307, u308, u309, u310, u311, u312, u313, u314, u315, u316, u317, u318, u319, u320, u321, u322, u323, u324, u325, u326, u327, u328, u329, u330, u331, u332, u333, u334, u335, u336, u337, u338, u339, u340, u341, u342, u343, u344, u345, u346, u347, u348, u349, u350, u351, u352, u353, u354, u355, u356, u357, u358, u359, u360, u361, u362, u363, u364, u365, u366, u367, u368, u369, u370, u371, u372, u373, u374, u375, u376, u377, u378, u379, u380, u381, u382, u383, u384, u385, u386, u387, u388, u389, u390, u391, u392, u393, u394, u395, u396, u397, u398, u399, u400, u401, u402, u403, u404, u405, u406, u407, u408, u409, u410, u411, u412, u413, u414, u415, u416], defers := [] } w := by
  have EH : Hid (EI base w h vv pv xv vs n gq Gq Cq R B v G C T m T0 T1) := E
  have topH : Hid (w.heap[bt]? = some (.cells #[.int .u64 t0, .int .u64 t1] 35 (0, 0))) := top
  have ppH : Hid (PP base POST w) := pp
  have hKH : Hid (Hid (∀ a w, Code.wp Yba.prog (dropS 21 (Yba.f3.body.getD .skip)) (bodyPost Yba.prog Yba.f3 POST) a w → K a w)) := hK
  have hTH : Hid (T0 = (if abv vs.length n t0 t1 v then v.s else t0) ∧ T1 = (if abv vs.length n t0 t1 v then v.t else t1)) := hT
  have btH : Hid (B ≠ bt ∧ base ≤ bt) := ⟨hBt, hbb⟩
  have p0 : w.cell? ⟨bo, 0, none⟩ = some (.int .u64 t0) := (cell_cells otop _).trans rfl
  have p1 : w.cell? ⟨bo, 1, none⟩ = some (.int .u64 t1) := (cell_cells otop _).trans rfl
  have q0 : w.cell? ⟨bt, 0, none⟩ = some (.int .u64 t0) := (cell_cells top _).trans rfl
  have q1 : w.cell? ⟨bt, 1, none⟩ = some (.int .u64 t1) := (cell_cells top _).trans rfl
  have qf : ∀ i, w.frozen? ⟨bt, i, none⟩ = false := fun i => by simp [World.frozen?, top]
  obtain ⟨d0, d1, d2, d3, d4, d5⟩ := EH.out.box.here
  clear E top pp hK hT otop hBt hbb
  obtain ⟨x, hx⟩ : ∃ x, vs.length = x := ⟨_, rfl⟩
  have xH : Hid (vs.length = x) := hx
  rw [hx]
  clear hx
  obtain ⟨Q, hQ⟩ : ∃ Q, bodyPost Yba.prog Yba.f3 POST = Q := ⟨_, rfl⟩
  rw [hQ]
  simp only [Yba.f3, Option.getD_some, dropS, pickE]
  have hQH : Hid (bodyPost Yba.prog Yba.f3 POST = Q) := hQ
  clear hQ
  refine seq_hid fun Ka hKa => ?_
  have setT : Hid (∀ Z, Z = (w.setCell ⟨bt, 0, none⟩ (.int .u64 v.s)).setCell ⟨bt, 1, none⟩ (.int .u64 v.t) → Keep (· = bt) w Z ∧ Z.heap[bt]? = some (.cells #[.int .u64 v.s, .int .u64 v.t] 35 (0, 0))) := fun Z hZ => by
    subst hZ
    refine ⟨((Keep.refl _ w).setCell (by rfl) _).setCell (by rfl) _, ?_⟩
    simp only [World.setCell, Array.getElem?_modify, topH.out, Option.map_some]
    simp
  have yes : Hid (abv vs.length n t0 t1 v = true → EI base ((w.setCell ⟨bt, 0, none⟩ (.int .u64 v.s)).setCell ⟨bt, 1, none⟩ (.int .u64 v.t)) h vv pv xv vs n gq Gq Cq R B v G C T m T0 T1 ∧ ((w.setCell ⟨bt, 0, none⟩ (.int .u64 v.s)).setCell ⟨bt, 1, none⟩ (.int .u64 v.t)).heap[bt]? = some (.cells #[.int .u64 T0, .int .u64 T1] 35 (0, 0)) ∧ PP base POST ((w.setCell ⟨bt, 0, none⟩ (.int .u64 v.s)).setCell ⟨bt, 1, none⟩ (.int .u64 v.t))) := fun hA => by
    obtain ⟨k, hh⟩ := setT.out _ rfl
    have h1 := hTH.out
    rw [if_pos hA, if_pos hA] at h1
    exact ⟨EH.out.keepTop k topH.out btH.out.1, by rw [h1.1, h1.2]; exact hh, ppH.out.next (k.weak fun i _ e => by have := btH.out.2; omega)⟩
  have no : Hid (abv vs.length n t0 t1 v = false → w.heap[bt]? = some (.cells #[.int .u64 T0, .int .u64 T1] 35 (0, 0))) := fun hA => by
    have h1 := hTH.out
    rw [hA] at h1
    simp only [Bool.false_eq_true, if_false] at h1
    rw [h1.1, h1.2]
    exact topH.out
  by_cases hA : x = 0 ∧ n = 0
  · obtain ⟨hx0, hn0⟩ := hA
    have hA : abv vs.length n t0 t1 v = true := by rw [xH.out, hx0, hn0]; simp [abv]
    have yy := yes.out hA
    have yyH : Hid (_ ∧ _) := yy
    clear hA yy
    subst hx0
    subst hn0
    go_wp2
    have hQQ := hQH.out
    subst hQQ
    exact hKa.out _ _ (eA POST K hKH.out base _ h vv pv xv vs 0 gq Gq Cq R B v G C T m bt T0 T1 yyH.out.1 yyH.out.2.1 yyH.out.2.2)
  · have hB : ¬ x = 0 ∨ (x = 0 ∧ ¬ n = 0) := by omega
    have hT : (t0 < v.s) ∨ ((¬ t0 < v.s) ∧ v.s = t0 ∧ (t1 < v.t ∨ ¬ t1 < v.t)) ∨ ((¬ t0 < v.s) ∧ ¬ v.s = t0) := by omega
    have hAH : Hid (¬(x = 0 ∧ n = 0)) := hA
    clear hA
    rcases hB with hB1 | ⟨hx0, hB2⟩
    · rcases hT with hT1 | ⟨hT1, rfl, hT3 | hT3⟩ | ⟨hT1, hT2⟩
      · have hA : abv vs.length n t0 t1 v = true := by rw [xH.out]; simp [abv, hT1]
        have yyH : Hid (_ ∧ _) := yes.out hA
        clear hA
        skip
        go_wp2
        have hQQ := hQH.out
        subst hQQ
        exact hKa.out _ _ (eA POST K hKH.out base _ h vv pv xv vs n gq Gq Cq R B v G C T m bt T0 T1 yyH.out.1 yyH.out.2.1 yyH.out.2.2)
      · have hA : abv vs.length n v.s t1 v = true := by rw [xH.out]; simp [abv, hT3]
        have yyH : Hid (_ ∧ _) := yes.out hA
        clear hA
        skip
        go_wp2
        have hQQ := hQH.out
        subst hQQ
        exact hKa.out _ _ (eA POST K hKH.out base _ h vv pv xv vs n gq Gq Cq R B v G C T m bt T0 T1 yyH.out.1 yyH.out.2.1 yyH.out.2.2)
      · have hA : abv vs.length n v.s t1 v = false := by rw [xH.out]; have h9 := hAH.out; simp [abv]; omega
        have noH : Hid (_ = _) := no.out hA
        clear hA
        skip
        go_wp2
        have hQQ := hQH.out
        subst hQQ
        exact hKa.out _ _ (eA POST K hKH.out base _ h vv pv xv vs n gq Gq Cq R B v G C T m bt T0 T1 EH.out noH.out ppH.out)
      · have hA : abv vs.length n t0 t1 v = false := by rw [xH.out]; have h9 := hAH.out; simp [abv]; omega
        have noH : Hid (_ = _) := no.out hA
        clear hA
        skip
        go_wp2
        have hQQ := hQH.out
        subst hQQ
        exact hKa.out _ _ (eA POST K hKH.out base _ h vv pv xv vs n gq Gq Cq R B v G C T m bt T0 T1 EH.out noH.out ppH.out)
    · rcases hT with hT1 | ⟨hT1, rfl, hT3 | hT3⟩ | ⟨hT1, hT2⟩
      · have hA : abv vs.length n t0 t1 v = true := by rw [xH.out]; simp [abv, hT1]
        have yyH : Hid (_ ∧ _) := yes.out hA
        clear hA
        subst hx0
        go_wp2
        have hQQ := hQH.out
        subst hQQ
        exact hKa.out _ _ (eA POST K hKH.out base _ h vv pv xv vs n gq Gq Cq R B v G C T m bt T0 T1 yyH.out.1 yyH.out.2.1 yyH.out.2.2)
      · have hA : abv vs.length n v.s t1 v = true := by rw [xH.out]; simp [abv, hT3]
        have yyH : Hid (_ ∧ _) := yes.out hA
        clear hA
        subst hx0
        go_wp2
        have hQQ := hQH.out
        subst hQQ
        exact hKa.out _ _ (eA POST K hKH.out base _ h vv pv xv vs n gq Gq Cq R B v G C T m bt T0 T1 yyH.out.1 yyH.out.2.1 yyH.out.2.2)
      · have hA : abv vs.length n v.s t1 v = false := by rw [xH.out]; have h9 := hAH.out; simp [abv]; omega
        have noH : Hid (_ = _) := no.out hA
        clear hA
        subst hx0
        go_wp2
        have hQQ := hQH.out
        subst hQQ
        exact hKa.out _ _ (eA POST K hKH.out base _ h vv pv xv vs n gq Gq Cq R B v G C T m bt T0 T1 EH.out noH.out ppH.out)
      · have hA : abv vs.length n t0 t1 v = false := by rw [xH.out]; have h9 := hAH.out; simp [abv]; omega
        have noH : Hid (_ = _) := no.out hA
        clear hA
        subst hx0
        go_wp2
        have hQQ := hQH.out
        subst hQQ
        exact hKa.out _ _ (eA POST K hKH.out base _ h vv pv xv vs n gq Gq Cq R B v G C T m bt T0 T1 EH.out noH.out ppH.out)

end Go.Proofs.Ybulkdink
