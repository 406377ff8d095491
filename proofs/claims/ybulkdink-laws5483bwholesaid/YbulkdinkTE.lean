import Derived.Test.YbulkdinkTC
namespace Go.Proofs.Ybulkdink
open Go.ChangeShapes Go.WideShapes Go.ChangeAt Go.RowKit
set_option linter.unusedVariables false
set_option linter.unusedSimpArgs false

set_option maxRecDepth 100000 in
set_option maxHeartbeats 8000000 in
theorem eB {u0 u1 u2 u3 u4 u5 u6 u7 u8 u9 u10 u11 u12 u13 u15 u16 u17 u18 u20 u24 u27 u28 u29 u30 u34 u35 u36 u37 u38 u39 u40 u41 u42 u43 u44 u45 u46 u47 u48 u49 u50 u51 u52 u53 u54 u55 u56 u57 u58 u59 u60 u61 u62 u63 u64 u65 u66 u67 u68 u69 u70 u71 u72 u73 u74 u75 u76 u77 u78 u79 u80 u81 u82 u83 u84 u85 u86 u87 u88 u89 u90 u91 u92 u93 u94 u95 u96 u97 u98 u99 u100 u101 u102 u103 u104 u105 u106 u107 u108 u109 u110 u111 u112 u113 u114 u115 u116 u117 u118 u119 u120 u121 u122 u123 u124 u125 u126 u127 u128 u129 u130 u131 u132 u133 u134 u135 u136 u137 u138 u139 u140 u141 u142 u143 u144 u145 u146 u147 u148 u149 u150 u151 u152 u153 u154 u155 u156 u157 u158 u159 u160 u161 u162 u163 u164 u165 u166 u167 u168 u169 u170 u171 u172 u173 u174 u175 u176 u177 u178 u179 u180 u181 u182 u183 u184 u185 u186 u187 u188 u189 u190 u191 u192 u193 u194 u195 u196 u197 u198 u199 u200 u201 u202 u203 u204 u205 u206 u207 u208 u209 u210 u211 u212 u213 u214 u215 u216 u217 u218 u219 u220 u221 u222 u223 u224 u225 u226 u227 u228 u229 u230 u231 u232 u233 u234 u235 u236 u237 u238 u239 u240 u241 u242 u243 u244 u245 u246 u247 u248 u249 u250 u251 u252 u253 u254 u255 u256 u257 u258 u259 u260 u261 u262 u263 u264 u265 u266 u267 u268 u269 u270 u271 u272 u273 u274 u275 u276 u277 u278 u279 u280 u281 u282 u283 u284 u285 u286 u287 u288 u289 u290 u291 u292 u293 u294 u295 u296 u297 u298 u299 u300 u301 u302 u303 u304 u305 u306 u307 u308 u309 u310 u311 u312 u313 u314 u315 u316 u317 u318 u319 u320 u321 u322 u323 u324 u325 u326 u327 u328 u329 u330 u331 u332 u333 u334 u335 u336 u337 u338 u339 u340 u341 u342 u343 u344 u345 u346 u347 u348 u349 u350 u351 u352 u353 u354 u355 u356 u357 u358 u359 u360 u361 u362 u363 u364 u365 u366 u367 u368 u369 u370 u371 u372 u373 u374 u375 u376 u377 u378 u379 u380 u381 u382 u383 u384 u385 u386 u387 u388 u389 u390 u391 u392 u393 u394 u395 u396 u397 u398 u399 u400 u401 u402 u403 u404 u405 u406 u407 u408 u409 u410 u411 u412 u413 u414 u415 u416 : Value} (POST : Ending → World → Prop) (K : Act → World → Prop) (hK : Hid (∀ a w, Code.wp Yba.prog (dropS 21 (Yba.f3.body.getD .skip)) (bodyPost Yba.prog Yba.f3 POST) a w → K a w)) (base : Nat) (w : World) (h : Nat) (vv pv xv : Value) (vs : List V) (n gq : Nat) (Gq Cq : Nat → Nat) (R : Nat → List V) (B : Nat) (v : V) (G C : Nat → Nat) (T : List V) (m bt : Nat) (t0 t1 : Int) (a0 b0 : Nat) (ha0 : n0 n R v = a0) (hb0 : l0 n R v = b0)
    (E : EI base w h vv pv xv vs n gq Gq Cq R B v G C T m t0 t1) (top : w.heap[bt]? = some (.cells #[.int .u64 t0, .int .u64 t1] 35 (0, 0))) (pp : PP base POST w) :
    Code.wp Yba.prog (dropS 6 (pickE (dropS 20 (Yba.f3.body.getD .skip)))) (Exit.then K (bodyPost Yba.prog Yba.f3 POST)) { tmps := #[u0, u1, u2, u3, u4, u5, u6, u7, u8, u9, u10, u11, u12, u13, (.pointer (some ⟨h, 0, none⟩)), u15, u16, u17, u18, (.slice (some ⟨gq, 0, none⟩) n n), u20, (.pointer (some ⟨B, 0, none⟩)), (.bool true), xv, u24, (.pointer (some ⟨bt, 0, none⟩)), (.bool true), u27, u28, u29, u30, (.int .i64 n), (.int .i64 ((a0 : Nat) : Int)), (.int .i64 ((b0 : Nat) : Int)), u34, u35, u36, u37, u38, u39, u40, u41, u42, u43, u44, u45, u46, u47, u48, u49, u50, u51, u52, u53, u54, u55, u56, u57, u58, u59, u60, u61, u62, u63, u64, u65, u66, u67, u68, u69, u70, u71, u72, u73, u74, u75, u76, u77, u78, u79, u80, u81, u82, u83, u84, u85, u86, u87, u88, u89, u90, u91, u92, u93, u94, u95, u96, u97, u98, u99, u100, u101, u102, u103, u104, u105, u106, u107, u108, u109, u110, u111, u112, u113, u114, u115, u116, u117, u118, u119, u120, u121, u122, u123, u124, u125, u126, u127, u128, u129, u130, u131, u132, u133, u134, u135, u136, u137, u138, u139, u140, u141, u142, u143, u144, u145, u146, u147, u148, u149, u150, u151, u152, u153, u154, u155, u156, u157, u158, u159, u160, u161, u162, u163, u164, u165, u166, u167, u168, u169, u170, u171, u172, u173, u174, u175, u176, u177, u178, u179, u180, u181, u182, u183, u184, u185, u186, u187, u188, u189, u190, u191, u192, u193, u194, u195, u196, u197, u198, u199, u200, u201, u202, u203, u204, u205, u206, u207, u208, u209, u210, u211, u212, u213, u214, u215, u216, u217, u218, u219, u220, u221, u222, u223, u224, u225, u226, u227, u228, u229, u230, u231, u232, u233, u234, u235, u236, u237, u238, u239, u240, u241, u242, u243, u244, u245, u246, u247, u248, u249, u250, u251, u252, u253, u254, u255, u256, u257, u258, u259, u260, u261, u262, u263, u264, u265, u266, u267, u268, u269, u270, u271, u272, u273, u274, u275, u276, u277, u278, u279, u280, u281, u282, u283, u284, u285, u286, u287, u288, u289, u290, u291, u292, u293, u294, u295, u296, u297, u298, u299, u300, u301, u302, u303, u304, u305, u306, u307, u308, u309, u310, u311, u312, u313, u314, u315, u316, u317, u318, u319, u320, u321, u322, u323, u324, u325, u326, u327, u328, u329, u330, u331, u332, u333, u334, u335, u336, u337, u338, u339, u340, u341, u342, u343, u344, u345, u346, u347, u348, u349, u350, u351, u352, u353, u354, u355, u356, u357, u358, u359, u360, u361, u362, u363, u364, u365, u366, u367, u368, u369, u370, u371, u372, u373, u374, u375, u376, u377, u378, u379, u380, u381, u382, u383, u384, u385, u386, u387, u388, u389, u390, u391, u392, u393, u394, u395, u396, u397, u398, u399, u400, u401, u402, u403, u404, u405, u406, u407, u408, u409, u410, u411, u412, u413, u414, u415, u416], defers := [] } w := by
  have EH : Hid (EI base w h vv pv xv vs n gq Gq Cq R B v G C T m t0 t1) := E
  have topH : Hid (w.heap[bt]? = some (.cells #[.int .u64 t0, .int .u64 t1] 35 (0, 0))) := top
  have ppH : Hid (PP base POST w) := pp
  clear E top pp
  have nlH : Hid (n0 n R v = a0 ∧ l0 n R v = b0) := ⟨ha0, hb0⟩
  have hnb : n ≤ 100000 := Nat.le_trans (cat_len_ge EH.out.good.rne) EH.out.good.rlen
  have start : Hid (1 ≤ a0 ∧ a0 ≤ n + 1 ∧ b0 + (cat R 0 (a0 - 1)).length ≤ 100001) := by
    rw [← ha0, ← hb0]
    have hr := EH.out.good.rlen
    unfold n0 l0
    cases hf : fresh n R v with
    | true => simp only [if_true]; refine ⟨by omega, by omega, ?_⟩; simp only [Nat.add_sub_cancel]; omega
    | false =>
      have hn0 : ¬ n = 0 := fun e => by simp [fresh, e] at hf
      obtain ⟨q, rfl⟩ : ∃ q, n = q + 1 := ⟨n - 1, by omega⟩
      have h1 := congrArg List.length (cat_back R 0 q (by omega))
      rw [List.length_append] at h1
      simp only [Bool.false_eq_true, if_false, Nat.add_sub_cancel]
      refine ⟨by omega, by omega, by omega⟩
  clear ha0 hb0
  obtain ⟨Q, hQ⟩ : ∃ Q, bodyPost Yba.prog Yba.f3 POST = Q := ⟨_, rfl⟩
  have hKH : Hid (∀ a w, Code.wp Yba.prog (dropS 21 (Yba.f3.body.getD .skip)) (bodyPost Yba.prog Yba.f3 POST) a w → K a w) := hK
  clear hK
  rw [hQ]
  simp only [Yba.f3, Option.getD_some, dropS, pickE]
  refine seq_hid fun K1 hK1 => ?_
  have hQH : Hid (bodyPost Yba.prog Yba.f3 POST = Q) := hQ
  clear hQ
  go_upto_region 66 with fail
  go_loopg [32, 33] a0 (fun d s32 s33 wr => ∃ a tl : Nat, d = a ∧ s32 = .int .i64 a ∧ s33 = .int .i64 tl ∧ wr = w ∧ 1 ≤ a ∧ a ≤ n + 1 ∧ tl + (cat R 0 (a - 1)).length ≤ 100001 ∧ stop (len R) a tl = stop (len R) a0 b0)
  case atStart => exact ⟨a0, b0, rfl, rfl, rfl, rfl, start.out.1, start.out.2.1, start.out.2.2, rfl⟩
  case round =>
    obtain ⟨a, tl, hd, rfl, rfl, rfl, h1, h2, h3, h4⟩ := hrel
    have stH : Hid (stop (len R) a tl = stop (len R) a0 b0) := h4
    have bdH : Hid (tl + (cat R 0 (a - 1)).length ≤ 100001) := h3
    have htl : tl ≤ 100001 := by omega
    clear h3 h4 start
    by_cases ha : a = 1
    · subst ha
      have am : Hid (1 = m + 1) := by
        have h5 := EH.out.st
        rw [nlH.out.1, nlH.out.2, ← stH.out] at h5
        have h6 : stop (len R) 1 tl = 1 := by simp [stop]
        rw [h6] at h5
        exact h5.symm
      have am0 : m = 0 := by have := am.out; omega
      subst am0
      go_wp2
      have hQQ := hQH.out
      subst hQQ
      exact hK1.out _ _ (eC POST K hKH base wr h vv pv xv vs n gq Gq Cq R B v G C T 0 bt t0 t1 EH.out topH.out ppH.out)
    · obtain ⟨r, rfl⟩ : ∃ r, a = r + 2 := ⟨a - 2, by omega⟩
      have hrn : r < n := by omega
      have qc := EH.out.runs.pcell r hrn 0 []
      rw [← ext_zero] at qc
      simp only [ent] at qc
      obtain ⟨lr, hlr⟩ : ∃ l, (R r).length = l := ⟨_, rfl⟩
      have lrH : Hid ((R r).length = lr) := hlr
      have hlrb : lr ≤ 100000 := hlr ▸ Nat.le_trans (cat_len_at hrn) EH.out.good.rlen
      rw [hlr] at qc
      obtain ⟨A, hA⟩ : ∃ A : Nat, r + 2 = A := ⟨_, rfl⟩
      have AH : Hid (r + 2 = A) := hA
      have gd : 1 < A := by omega
      have ew : IntKind.i64.wrap ((A : Int) - 2) = (r : Int) := by rw [IntKind.wrap_i64] <;> omega
      have ew1 : IntKind.i64.wrap ((A : Int) - 1) = (((r + 1 : Nat) : Int)) := by rw [IntKind.wrap_i64] <;> omega
      have iw : (r : Int) < (n : Int) := by omega
      have ewm : IntKind.i64.wrap (2 * (tl : Int)) = 2 * (tl : Int) := by rw [IntKind.wrap_i64] <;> omega
      have ewa : IntKind.i64.wrap ((tl : Int) + (lr : Int)) = ((tl + lr : Nat) : Int) := by rw [IntKind.wrap_i64] <;> omega
      rw [hA]
      clear hlr hA
      by_cases hc : lr < 2 * tl
      · have hc' : (lr : Int) < 2 * (tl : Int) := by omega
        go_wp2
        go_roundg (r + 1)
        case measure => have := AH.out; omega
        case rel =>
          refine ⟨r + 1, tl + lr, rfl, rfl, rfl, rfl, by omega, by omega, ?_, ?_⟩
          · have h5 := congrArg List.length (cat_back R 0 r (by omega))
            rw [List.length_append, lrH.out] at h5
            have h6 := bdH.out
            simp only [Nat.add_sub_cancel] at h6 ⊢
            rw [show r + 2 - 1 = r + 1 by omega] at h6
            omega
          · rw [← stH.out, stop_yes _ _ _ (by simp only [len]; rw [lrH.out]; exact hc)]
            simp only [len]
            rw [lrH.out]
      · have hc' : ¬ (lr : Int) < 2 * (tl : Int) := by omega
        have am : r + 2 = m + 1 := by
          have h5 := EH.out.st
          rw [nlH.out.1, nlH.out.2, ← stH.out, stop_no _ _ _ (by simp only [len]; rw [lrH.out]; exact hc)] at h5
          exact h5.symm
        go_wp2
        have hQQ := hQH.out
        subst hQQ
        have eA : A = m + 1 := by have := AH.out; omega
        subst eA
        exact hK1.out _ _ (eC POST K hKH base wr h vv pv xv vs n gq Gq Cq R B v G C T m bt t0 t1 EH.out topH.out ppH.out)

end Go.Proofs.Ybulkdink
