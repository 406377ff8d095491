import Derived.Test.YbulkdinkTE
namespace Go.Proofs.Ybulkdink
open Go.ChangeShapes Go.WideShapes Go.ChangeAt Go.RowKit
set_option linter.unusedVariables false
set_option linter.unusedSimpArgs false

set_option maxRecDepth 100000 in
set_option maxHeartbeats 8000000 in
theorem eA {u0 u1 u2 u3 u4 u5 u6 u7 u8 u9 u10 u11 u12 u13 u15 u16 u17 u18 u20 u24 u27 u28 u29 u30 u31 u32 u33 u34 u35 u36 u37 u38 u39 u40 u41 u42 u43 u44 u45 u46 u47 u48 u49 u50 u51 u52 u53 u54 u55 u56 u57 u58 u59 u60 u61 u62 u63 u64 u65 u66 u67 u68 u69 u70 u71 u72 u73 u74 u75 u76 u77 u78 u79 u80 u81 u82 u83 u84 u85 u86 u87 u88 u89 u90 u91 u92 u93 u94 u95 u96 u97 u98 u99 u100 u101 u102 u103 u104 u105 u106 u107 u108 u109 u110 u111 u112 u113 u114 u115 u116 u117 u118 u119 u120 u121 u122 u123 u124 u125 u126 u127 u128 u129 u130 u131 u132 u133 u134 u135 u136 u137 u138 u139 u140 u141 u142 u143 u144 u145 u146 u147 u148 u149 u150 u151 u152 u153 u154 u155 u156 u157 u158 u159 u160 u161 u162 u163 u164 u165 u166 u167 u168 u169 u170 u171 u172 u173 u174 u175 u176 u177 u178 u179 u180 u181 u182 u183 u184 u185 u186 u187 u188 u189 u190 u191 u192 u193 u194 u195 u196 u197 u198 u199 u200 u201 u202 u203 u204 u205 u206 u207 u208 u209 u210 u211 u212 u213 u214 u215 u216 u217 u218 u219 u220 u221 u222 u223 u224 u225 u226 u227 u228 u229 u230 u231 u232 u233 u234 u235 u236 u237 u238 u239 u240 u241 u242 u243 u244 u245 u246 u247 u248 u249 u250 u251 u252 u253 u254 u255 u256 u257 u258 u259 u260 u261 u262 u263 u264 u265 u266 u267 u268 u269 u270 u271 u272 u273 u274 u275 u276 u277 u278 u279 u280 u281 u282 u283 u284 u285 u286 u287 u288 u289 u290 u291 u292 u293 u294 u295 u296 u297 u298 u299 u300 u301 u302 u303 u304 u305 u306 u307 u308 u309 u310 u311 u312 u313 u314 u315 u316 u317 u318 u319 u320 u321 u322 u323 u324 u325 u326 u327 u328 u329 u330 u331 u332 u333 u334 u335 u336 u337 u338 u339 u340 u341 u342 u343 u344 u345 u346 u347 u348 u349 u350 u351 u352 u353 u354 u355 u356 u357 u358 u359 u360 u361 u362 u363 u364 u365 u366 u367 u368 u369 u370 u371 u372 u373 u374 u375 u376 u377 u378 u379 u380 u381 u382 u383 u384 u385 u386 u387 u388 u389 u390 u391 u392 u393 u394 u395 u396 u397 u398 u399 u400 u401 u402 u403 u404 u405 u406 u407 u408 u409 u410 u411 u412 u413 u414 u415 u416 : Value} (POST : Ending → World → Prop) (K : Act → World → Prop) (hK : Hid (∀ a w, Code.wp Yba.prog (dropS 21 (Yba.f3.body.getD .skip)) (bodyPost Yba.prog Yba.f3 POST) a w → K a w)) (base : Nat) (w : World) (h : Nat) (vv pv xv : Value) (vs : List V) (n gq : Nat) (Gq Cq : Nat → Nat) (R : Nat → List V) (B : Nat) (v : V) (G C : Nat → Nat) (T : List V) (m bt : Nat) (t0 t1 : Int)
    (E : EI base w h vv pv xv vs n gq Gq Cq R B v G C T m t0 t1) (top : w.heap[bt]? = some (.cells #[.int .u64 t0, .int .u64 t1] 35 (0, 0))) (pp : PP base POST w) :
    Code.wp Yba.prog (dropS 1 (pickE (dropS 20 (Yba.f3.body.getD .skip)))) (Exit.then K (bodyPost Yba.prog Yba.f3 POST)) { tmps := #[u0, u1, u2, u3, u4, u5, u6, u7, u8, u9, u10, u11, u12, u13, (.pointer (some ⟨h, 0, none⟩)), u15, u16, u17, u18, (.slice (some ⟨gq, 0, none⟩) n n), u20, (.pointer (some ⟨B, 0, none⟩)), (.bool true), xv, u24, (.pointer (some ⟨bt, 0, none⟩)), (.bool true), u27, u28, u29, u30, u31, u32, u33, u34, u35, u36, u37, u38, u39, u40, u41, u42, u43, u44, u45, u46, u47, u48, u49, u50, u51, u52, u53, u54, u55, u56, u57, u58, u59, u60, u61, u62, u63, u64, u65, u66, u67, u68, u69, u70, u71, u72, u73, u74, u75, u76, u77, u78, u79, u80, u81, u82, u83, u84, u85, u86, u87, u88, u89, u90, u91, u92, u93, u94, u95, u96, u97, u98, u99, u100, u101, u102, u103, u104, u105, u106, u107, u108, u109, u110, u111, u112, u113, u114, u115, u116, u117, u118, u119, u120, u121, u122, u123, u124, u125, u126, u127, u128, u129, u130, u131, u132, u133, u134, u135, u136, u137, u138, u139, u140, u141, u142, u143, u144, u145, u146, u147, u148, u149, u150, u151, u152, u153, u154, u155, u156, u157, u158, u159, u160, u161, u162, u163, u164, u165, u166, u167, u168, u169, u170, u171, u172, u173, u174, u175, u176, u177, u178, u179, u180, u181, u182, u183, u184, u185, u186, u187, u188, u189, u190, u191, u192, u193, u194, u195, u196, u197, u198, u199, u200, u201, u202, u203, u204, u205, u206, u207, u208, u209, u210, u211, u212, u213, u214, u215, u216, u217, u218, u219, u220, u221, u222, u223, u224, u225, u226, u227, u228, u229, u230, u231, u232, u233, u234, u235, u236, u237, u238, u239, u240, u241, u242, u243, u244, u245, u246, u247, u248, u249, u250, u251, u252, u253, u254, u255, u256, u257, u258, u259, u260, u261, u262, u263, u264, u265, u266, u267, u268, u269, u270, u271, u272, u273, u274, u275, u276, u277, u278, u279, u280, u281, u282, u283, u284, u285, u286, u287, u288, u289, u290, u291, u292, u293, u294, u295, u296, u297, u298, u299, u300, u301, u302, u303, u304, u305, u306, u307, u308, u309, u310, u311, u312, u313, u314, u315, u316, u317, u318, u319, u320, u321, u322, u323, u324, u325, u326, u327, u328, u329, u330, u331, u332, u333, u334, u335, u336, u337, u338, u339, u340, u341, u342, u343, u344, u345, u346, u347, u348, u349, u350, u351, u352, u353, u354, u355, u356, u357, u358, u359, u360, u361, u362, u363, u364, u365, u366, u367, u368, u369, u370, u371, u372, u373, u374, u375, u376, u377, u378, u379, u380, u381, u382, u383, u384, u385, u386, u387, u388, u389, u390, u391, u392, u393, u394, u395, u396, u397, u398, u399, u400, u401, u402, u403, u404, u405, u406, u407, u408, u409, u410, u411, u412, u413, u414, u415, u416], defers := [] } w := by
  have EH : Hid (EI base w h vv pv xv vs n gq Gq Cq R B v G C T m t0 t1) := E
  have topH : Hid (w.heap[bt]? = some (.cells #[.int .u64 t0, .int .u64 t1] 35 (0, 0))) := top
  have ppH : Hid (PP base POST w) := pp
  have hKH : Hid (Hid (∀ a w, Code.wp Yba.prog (dropS 21 (Yba.f3.body.getD .skip)) (bodyPost Yba.prog Yba.f3 POST) a w → K a w)) := hK
  clear E top pp hK
  have hPl := Pl.some
  have nxt : Hid (∀ k os, EI base (ext w k os) h vv pv xv vs n gq Gq Cq R B v G C T m t0 t1 ∧ (ext w k os).heap[bt]? = some (.cells #[.int .u64 t0, .int .u64 t1] 35 (0, 0)) ∧ PP base POST (ext w k os)) := fun k os => by
    have KE : Keep (fun _ => False) w (ext w k os) := Ext.keep ⟨_, _, rfl⟩ _
    exact ⟨EH.out.keep KE, (KE.block bt (Array.getElem?_eq_some_iff.1 topH.out).1 id).trans topH.out, ppH.out.next (KE.weak (fun _ _ e => e.elim))⟩
  have hnb : n ≤ 100000 := Nat.le_trans (cat_len_ge EH.out.good.rne) EH.out.good.rlen
  obtain ⟨d0, d1, d2, d3, d4, d5⟩ := EH.out.box
  obtain ⟨Q, hQ⟩ : ∃ Q, bodyPost Yba.prog Yba.f3 POST = Q := ⟨_, rfl⟩
  rw [hQ]
  simp only [Yba.f3, Option.getD_some, dropS, pickE]
  have hQH : Hid (bodyPost Yba.prog Yba.f3 POST = Q) := hQ
  clear hQ
  refine seq_hid fun Ka hKa => ?_
  go_wp2
  refine hKa.out _ _ ?_
  refine seq_hid fun Kb hKb => ?_
  go_wp2
  refine hKb.out _ _ ?_
  refine seq_hid fun Kc hKc => ?_
  obtain ⟨W0, k0, o0, hW0⟩ : ∃ W0 k0 o0, W0 = ext w k0 o0 ∧ W0 = w := ⟨w, 0, [], ext_zero w, rfl⟩
  rw [← hW0.2]
  obtain ⟨rfl, hW02⟩ := hW0
  clear hW02
  by_cases hn0 : n = 0
  · subst hn0
    go_upto_region 61 with fail
    refine region_ext mixed (by kernel_rfl) ?_
    repeat (open Go.BigFrame in go_big_quiet_step ((go_at_call 5; fail)))
    refine wpQuiet_nil ?_
    rintro _ ⟨q, rfl⟩
    go_wp2
    refine hKc.out _ _ ?_
    refine seq_hid fun Kd hKd => ?_
    go_wp2
    refine hKd.out _ _ ?_
    refine seq_hid fun Ke hKe => ?_
    go_wp2
    have hQQ := hQH.out
    subst hQQ
    have KE : Keep (fun _ => False) w (ext w q.n q.os) := Ext.keep ⟨_, _, rfl⟩ _
    obtain ⟨x1, x2, x3⟩ := nxt.out q.n q.os
    have hf : fresh 0 R v = true := by simp [fresh]
    exact hKe.out _ _ (eB POST K hKH.out base _ h vv pv xv vs 0 gq Gq Cq R B v G C T m bt t0 t1 1 1 (by simp [n0, hf]) (by simp [l0, hf]) x1 x2 x3)
  · obtain ⟨r, rfl⟩ : ∃ r, n = r + 1 := ⟨n - 1, by omega⟩
    have pc := EH.out.runs.pcell r (by omega)
    obtain ⟨x, hx⟩ : ∃ x, (R r).length = x := ⟨_, rfl⟩
    have hx0 : 0 < x := hx ▸ EH.out.good.rne r (by omega)
    have hxb : x ≤ 100000 := hx ▸ Nat.le_trans (cat_len_at (by omega)) EH.out.good.rlen
    obtain ⟨l, rfl⟩ : ∃ l, x = l + 1 := ⟨x - 1, by omega⟩
    have hrow := (EH.out.runs.rows r (by omega)).row
    rw [hx] at hrow
    obtain ⟨a0, a1, a2, a3, a4, a5⟩ := hrow.at (i := l) (by omega)
    simp only [ent, hx] at pc
    obtain ⟨y, hy⟩ : ∃ y, nth (R r) l = y := ⟨_, rfl⟩
    rw [hy] at a1 a2 a3 a4 a5
    have hymem : y ∈ R r := hy ▸ nth_mem (by omega)
    have F := fun k os => from_pl (fun w => zcmp y v w (EH.out.good.rok r (by omega) y hymem) EH.out.vok) w k os
    have hfr : fresh (r + 1) R v = decide (0 < cmpV y v) := by
      simp only [fresh, last, Nat.add_sub_cancel, hx, hy]
      simp
    have hfrH : Hid (fresh (r + 1) R v = decide (0 < cmpV y v) ∧ (R r).length = l + 1) := ⟨hfr, hx⟩
    obtain ⟨N, hN⟩ : ∃ N : Nat, r + 1 = N := ⟨_, rfl⟩
    obtain ⟨L, hL⟩ : ∃ L : Nat, l + 1 = L := ⟨_, rfl⟩
    have hN0 : ((N : Int) == 0) = false := by simp; omega
    have hN0' : (N == 0) = false := by simp; omega
    have hN0'' : decide (N = 0) = false := decide_eq_false (by omega)
    have hNn : ¬ N = 0 := by omega
    have hL0 : ((L : Int) == 0) = false := by simp; omega
    have hL0' : (L == 0) = false := by simp; omega
    have hL0'' : decide (L = 0) = false := decide_eq_false (by omega)
    have hLn : ¬ L = 0 := by omega
    have eN : IntKind.i64.wrap ((N : Int) - 1) = (r : Int) := by rw [IntKind.wrap_i64] <;> omega
    have eL : IntKind.i64.wrap ((L : Int) - 1) = (l : Int) := by rw [IntKind.wrap_i64] <;> omega
    have iN : (r : Int) < (N : Int) := by omega
    have iL : (l : Int) < (L : Int) := by omega
    have NH : Hid (r + 1 = N ∧ l + 1 = L) := ⟨hN, hL⟩
    have hnb' : N ≤ 100000 := by omega
    have hlb' : L ≤ 100000 := by omega
    have eN1 : IntKind.i64.wrap ((N : Int) + 1) = ((N + 1 : Nat) : Int) := by rw [IntKind.wrap_i64] <;> omega
    have eL1 : IntKind.i64.wrap (1 + (L : Int)) = ((L + 1 : Nat) : Int) := by rw [IntKind.wrap_i64] <;> omega
    have hNN1 : ¬ ((N + 1 : Nat) : Int) = (N : Int) := by omega
    have hNN2 : ¬ (N + 1 = N) := by omega
    rw [hN]
    rw [hL] at pc
    clear hx hy hfr hN hL hx0 hxb hrow hnb hn0
    by_cases hc : 0 < cmpV y v
    · have hcd : decide (0 < cmpV y v) = true := decide_eq_true hc
      go_upto_region 61 with fail
      refine region_ext mixed (by kernel_rfl) ?_
      repeat (open Go.BigFrame in go_big_quiet_step ((go_at_call 5; exact F _ _)))
      refine wpQuiet_nil ?_
      rintro _ ⟨q, rfl⟩
      clear F
      go_wp2
      refine hKc.out _ _ ?_
      refine seq_hid fun Kd hKd => ?_
      go_wp2
      refine hKd.out _ _ ?_
      refine seq_hid fun Ke hKe => ?_
      go_wp2
      have hQQ := hQH.out
      subst hQQ
      have KE : Keep (fun _ => False) w (ext w q.n q.os) := Ext.keep ⟨_, _, rfl⟩ _
      obtain ⟨x1, x2, x3⟩ := nxt.out q.n q.os
      have hf : fresh (r + 1) R v = true := by rw [hfrH.out.1]; exact hcd
      obtain ⟨eN', eL'⟩ := NH.out
      subst eN'
      exact hKe.out _ _ (eB POST K hKH.out base _ h vv pv xv vs (r + 1) gq Gq Cq R B v G C T m bt t0 t1 (r + 1 + 1) 1 (by simp [n0, hf]) (by simp [l0, hf]) x1 x2 x3)
    · have hcd : decide (0 < cmpV y v) = false := decide_eq_false hc
      go_upto_region 61 with fail
      refine region_ext mixed (by kernel_rfl) ?_
      repeat (open Go.BigFrame in go_big_quiet_step ((go_at_call 5; exact F _ _)))
      refine wpQuiet_nil ?_
      rintro _ ⟨q, rfl⟩
      clear F
      go_wp2
      refine hKc.out _ _ ?_
      refine seq_hid fun Kd hKd => ?_
      go_wp2
      refine hKd.out _ _ ?_
      refine seq_hid fun Ke hKe => ?_
      go_wp2
      have hQQ := hQH.out
      subst hQQ
      have KE : Keep (fun _ => False) w (ext w q.n q.os) := Ext.keep ⟨_, _, rfl⟩ _
      obtain ⟨x1, x2, x3⟩ := nxt.out q.n q.os
      have hf : fresh (r + 1) R v = false := by rw [hfrH.out.1]; exact hcd
      have hlr := hfrH.out.2
      obtain ⟨eN', eL'⟩ := NH.out
      subst eN'
      subst eL'
      exact hKe.out _ _ (eB POST K hKH.out base _ h vv pv xv vs (r + 1) gq Gq Cq R B v G C T m bt t0 t1 (r + 1) (l + 1 + 1) (by simp [n0, hf]) (by simp [l0, hf, hlr]) x1 x2 x3)

end Go.Proofs.Ybulkdink
