import Derived.Test.YbulkdinkSI
namespace Go.Proofs.Ybulkdink
open Go.ChangeShapes Go.WideShapes Go.ChangeAt Go.RowKit
set_option linter.unusedVariables false
set_option linter.unusedSimpArgs false

theorem Own.drew {w : World} {g cap : Nat} {xs : List V} (h : Own w g cap xs) : Own w.drew g cap xs := by
  obtain ⟨cur, hb, r⟩ := h
  exact ⟨cur, hb, r⟩

set_option maxRecDepth 100000 in
set_option maxHeartbeats 8000000 in
theorem t19s {u0 u1 u2 u3 u4 u5 u6 u7 u8 u9 u10 u11 u12 u13 u15 u16 u17 u28 u29 u30 u31 u32 u33 u34 u35 u36 u37 u38 u39 u40 u41 u42 u43 u44 u45 u46 u47 u48 u49 u50 u51 u52 u53 u54 u55 u56 u57 u58 u59 u60 u61 u62 u63 u64 u65 u66 u67 u68 u69 u70 u71 u72 u73 u74 u75 u76 u77 u78 u79 u80 u81 u82 u83 u84 u85 u86 u87 u88 u89 u90 u91 u92 u93 u94 u95 u96 u97 u98 u99 u100 u101 u102 u103 u104 u105 u106 u107 u108 u109 u110 u111 u112 u113 u114 u115 u116 u117 u118 u119 u120 u121 u122 u123 u124 u125 u126 u127 u128 u129 u130 u131 u132 u133 u134 u135 u136 u137 u138 u139 u140 u141 u142 u143 u144 u145 u146 u147 u148 u149 u150 u151 u152 u153 u154 u155 u156 u157 u158 u159 u160 u161 u162 u163 u164 u165 u166 u167 u168 u169 u170 u171 u172 u173 u174 u175 u176 u177 u178 u179 u180 u181 u182 u183 u184 u185 u186 u187 u188 u189 u190 u191 u192 u193 u194 u195 u196 u197 u198 u199 u200 u201 u202 u203 u204 u205 u206 u207 u208 u209 u210 u211 u212 u213 u214 u215 u216 u217 u218 u219 u220 u221 u222 u223 u224 u225 u226 u227 u228 u229 u230 u231 u232 u233 u234 u235 u236 u237 u238 u239 u240 u241 u242 u243 u244 u245 u246 u247 u248 u249 u250 u251 u252 u253 u254 u255 u256 u257 u258 u259 u260 u261 u262 u263 u264 u265 u266 u267 u268 u269 u270 u271 u272 u273 u274 u275 u276 u277 u278 u279 u280 u281 u282 u283 u284 u285 u286 u287 u288 u289 u290 u291 u292 u293 u294 u295 u296 u297 u298 u299 u300 u301 u302 u303 u304 u305 u306 u307 u308 u309 u310 u311 u312 u313 u314 u315 u316 u317 u318 u319 u320 u321 u322 u323 u324 u325 u326 u327 u328 u329 u330 u331 u332 u333 u334 u335 u336 u337 u338 u339 u340 u341 u342 u343 u344 u345 u346 u347 u348 u349 u350 u351 u352 u353 u354 u355 u356 u357 u358 u359 u360 u361 u362 u363 u364 u365 u366 u367 u368 u369 u370 u371 u372 u373 u374 u375 u376 u377 u378 u379 u380 u381 u382 u383 u384 u385 u386 u387 u388 u389 u390 u391 u392 u393 u394 u395 u396 u397 u398 u399 u400 u401 u402 u403 u404 u405 u406 u407 u408 u409 u410 u411 u412 u413 u414 u415 u416 : Value} (POST : Ending → World → Prop) (base lo : Nat) (w : World) (h : Nat) (vv pv xv : Value) (vs : List V) (n gq gx : Nat) (Gq Cq Gx Cx G C : Nat → Nat) (R : Nat → List V) (B : Nat) (v : V) (bo bt cv : Nat) (av : Option Addr) (t0 t1 : Int) (got : Bool)
    (S : SI base lo w h vv pv xv vs n gq gx Gq Cq Gx Cx G C R B v bo bt t0 t1 got) (hv : has vs v = false) (pp : PP base POST w) :
    Code.wp Yba.prog (dropS 19 (Yba.f3.body.getD .skip)) (bodyPost Yba.prog Yba.f3 POST) { tmps := #[u0, u1, u2, u3, u4, u5, u6, u7, u8, u9, u10, u11, u12, u13, (.pointer (some ⟨h, 0, none⟩)), u15, u16, u17, (.slice av vs.length cv), (.slice (some ⟨gq, 0, none⟩) n n), (.pointer (some ⟨bo, 0, none⟩)), (.pointer (some ⟨B, 0, none⟩)), (.bool got), xv, (.slice (some ⟨gx, 0, none⟩) n n), (.pointer (some ⟨bt, 0, none⟩)), (.bool true), (.bool false), u28, u29, u30, u31, u32, u33, u34, u35, u36, u37, u38, u39, u40, u41, u42, u43, u44, u45, u46, u47, u48, u49, u50, u51, u52, u53, u54, u55, u56, u57, u58, u59, u60, u61, u62, u63, u64, u65, u66, u67, u68, u69, u70, u71, u72, u73, u74, u75, u76, u77, u78, u79, u80, u81, u82, u83, u84, u85, u86, u87, u88, u89, u90, u91, u92, u93, u94, u95, u96, u97, u98, u99, u100, u101, u102, u103, u104, u105, u106, u107, u108, u109, u110, u111, u112, u113, u114, u115, u116, u117, u118, u119, u120, u121, u122, u123, u124, u125, u126, u127, u128, u129, u130, u131, u132, u133, u134, u135, u136, u137, u138, u139, u140, u141, u142, u143, u144, u145, u146, u147, u148, u149, u150, u151, u152, u153, u154, u155, u156, u157, u158, u159, u160, u161, u162, u163, u164, u165, u166, u167, u168, u169, u170, u171, u172, u173, u174, u175, u176, u177, u178, u179, u180, u181, u182, u183, u184, u185, u186, u187, u188, u189, u190, u191, u192, u193, u194, u195, u196, u197, u198, u199, u200, u201, u202, u203, u204, u205, u206, u207, u208, u209, u210, u211, u212, u213, u214, u215, u216, u217, u218, u219, u220, u221, u222, u223, u224, u225, u226, u227, u228, u229, u230, u231, u232, u233, u234, u235, u236, u237, u238, u239, u240, u241, u242, u243, u244, u245, u246, u247, u248, u249, u250, u251, u252, u253, u254, u255, u256, u257, u258, u259, u260, u261, u262, u263, u264, u265, u266, u267, u268, u269, u270, u271, u272, u273, u274, u275, u276, u277, u278, u279, u280, u281, u282, u283, u284, u285, u286, u287, u288, u289, u290, u291, u292, u293, u294, u295, u296, u297, u298, u299, u300, u301, u302, u303, u304, u305, u306, u307, u308, u309, u310, u311, u312, u313, u314, u315, u316, u317, u318, u319, u320, u321, u322, u323, u324, u325, u326, u327, u328, u329, u330, u331, u332, u333, u334, u335, u336, u337, u338, u339, u340, u341, u342, u343, u344, u345, u346, u347, u348, u349, u350, u351, u352, u353, u354, u355, u356, u357, u358, u359, u360, u361, u362, u363, u364, u365, u366, u367, u368, u369, u370, u371, u372, u373, u374, u375, u376, u377, u378, u379, u380, u381, u382, u383, u384, u385, u386, u387, u388, u389, u390, u391, u392, u393, u394, u395, u396, u397, u398, u399, u400, u401, u402, u403, u404, u405, u406, u407, u408, u409, u410, u411, u412, u413, u414, u415, u416], defers := [] } w := by
  have SH : Hid (SI base lo w h vv pv xv vs n gq gx Gq Cq Gx Cx G C R B v bo bt t0 t1 got) := S
  have hvH : Hid (has vs v = false) := hv
  have ppH : Hid (PP base POST w) := pp
  clear S hv pp
  have nxt : Hid (∀ k os, SI base lo (ext w k os) h vv pv xv vs n gq gx Gq Cq Gx Cx G C R B v bo bt t0 t1 got ∧ PP base POST (ext w k os)) := fun k os => by
    have KE : Keep (fun _ => False) w (ext w k os) := Ext.keep ⟨_, _, rfl⟩ _
    exact ⟨SH.out.ext KE, ppH.out.next (KE.weak (fun _ _ e => e.elim))⟩
  have hPl := Pl.some
  have hnb : n ≤ 100000 := Nat.le_trans (cat_len_ge SH.out.good.rne) SH.out.good.rlen
  obtain ⟨Q, hQ⟩ : ∃ Q, bodyPost Yba.prog Yba.f3 POST = Q := ⟨_, rfl⟩
  rw [hQ]
  simp only [Yba.f3, Option.getD_some, dropS]
  subst hQ
  refine seq_hid fun K hK => ?_
  go_upto_region 46 with fail
  go_loopg [27, 29] (n + 1) (fun d s27 s29 wr => ∃ i : Nat, s29 = .int .i64 i ∧ ((d = n + 1 - i ∧ s27 = .bool false ∧ i ≤ n ∧ (∀ j, j < i → has (R j) v = false) ∧ ∃ k os, wr = ext w k os) ∨ (d = 0 ∧ i ≤ n ∧ s27 = .bool true ∧ got = false ∧ PP base POST wr ∧ ∃ R', Done base wr h vv pv xv vs n gx n bt G C Gx Cx R' t0 t1)))
  case atStart => exact ⟨0, rfl, .inl ⟨rfl, rfl, Nat.zero_le _, fun j hj => absurd hj (Nat.not_lt_zero _), 0, [], ext_zero w⟩⟩
  case round =>
    obtain ⟨i, rfl, hrel⟩ := hrel
    rcases hrel with ⟨hd, rfl, hin, hno, k, os, rfl⟩ | ⟨hd, hin, rfl, hgot, hpp, R', hD⟩
    · have noH : Hid (∀ j, j < i → has (R j) v = false) := hno
      clear hno
      by_cases hi : i < n
      · have hi' : (i : Int) < (n : Int) := by omega
        obtain ⟨l, hl⟩ : ∃ l, (R i).length = l := ⟨_, rfl⟩
        have lH : Hid ((R i).length = l) := hl
        have hlb : l ≤ 100000 := hl ▸ Nat.le_trans (cat_len_at hi) SH.out.good.rlen
        have xc := SH.out.xruns.pcell i hi
        simp only [ent, hl] at xc
        have hrow := (SH.out.xruns.rows i hi).row
        rw [hl] at hrow
        clear hl
        go_upto_region 49 with fail
        go_loopg [27, 30] (l + 1) (fun d s27 s30 wr => ∃ (j k : Nat) (os : List Obj), d = l + 1 - j ∧ s27 = .bool false ∧ s30 = .int .i64 j ∧ j ≤ l ∧ (∀ a, a < j → cmpV (nth (R i) a) v ≠ 0) ∧ wr = ext w k os)
        case atStart => exact ⟨0, k, os, rfl, rfl, rfl, Nat.zero_le _, fun a ha => absurd ha (Nat.not_lt_zero _), rfl⟩
        case round =>
          obtain ⟨j, k2, os2, hd2, rfl, rfl, hjl, hcmp, rfl⟩ := hrel
          have cmpH : Hid (∀ a, a < j → cmpV (nth (R i) a) v ≠ 0) := hcmp
          clear hcmp
          by_cases hj : j < l
          · have hj' : (j : Int) < (l : Int) := by omega
            obtain ⟨y, hy⟩ : ∃ y, nth (R i) j = y := ⟨_, rfl⟩
            have yH : Hid (nth (R i) j = y) := hy
            obtain ⟨a0, a1, a2, a3, a4, a5⟩ := hrow.at hj
            rw [hy] at a1 a2 a3 a4 a5
            have ymem : y ∈ R i := hy ▸ nth_mem (by rw [lH.out]; exact hj)
            have ymH : Hid (y ∈ R i) := ymem
            obtain ⟨d0, d1, d2, d3, d4, d5⟩ := SH.out.box
            have F := fun k os => from_pl (fun w => zcmp y v w (SH.out.good.rok i hi y ymem) SH.out.vok) w k os
            have sv : Hid (∀ k os, SigIn (ext w k os) v) := fun k os => SH.out.vsig.ext k os
            have sy : Hid (∀ k os, SigIn (ext w k os) y) := fun k os => (SH.out.good.rsig i hi y ymem).ext k os
            clear hy ymem
            by_cases hz : cmpV y v = 0
            · have hzb : (cmpV y v == 0) = true := by simp [hz]
              have hzH : Hid (cmpV y v = 0) := hz
              have hri : Hid (has (R i) v = true) := (put_at (SH.out.good.rsrt i hi) (p := j) (by rw [lH.out]; exact hj) (by rw [yH.out]; exact hz)).1
              have hput : Hid (put (R i) v = if sc v y < 0 then (R i).set j v else R i) := by
                have := (put_at (SH.out.good.rsrt i hi) (p := j) (by rw [lH.out]; exact hj) (by rw [yH.out]; exact hz)).2
                rw [yH.out] at this
                exact this
              have F9 : ∀ k os, Calls Yba.prog 9 #[v.sg, y.sg] (ext w k os) fun e w' => e = .returned (.int .i64 (sc v y)) ∧ ∃ q : Pl, w' = ext w q.n q.os := fun k os =>
                (bcmp v y _ (sv.out k os) (sy.out k os)).mono fun e w' ⟨h1, h2⟩ => ⟨h1, ⟨k, os⟩, h2⟩
              clear hz
              go_upto_region 51 with fail
              refine region_ext mixed (by kernel_rfl) ?_
              repeat (open Go.BigFrame in go_big_quiet_step ((go_at_call 5; exact F _ _)))
              refine wpQuiet_nil ?_
              rintro _ ⟨q, rfl⟩
              by_cases hc : sc v y < 0
              · have hcd : decide (sc v y < 0) = true := decide_eq_true hc
                go_upto_region 53 with fail
                refine region_ext mixed (by kernel_rfl) ?_
                repeat (open Go.BigFrame in go_big_quiet_step ((go_at_call 9; exact F9 _ _)))
                refine wpQuiet_nil ?_
                rintro _ ⟨q2, rfl⟩
                clear F F9
                obtain ⟨wq, hwq⟩ : ∃ wq, ext w q2.n q2.os = wq := ⟨_, rfl⟩
                obtain ⟨A, L, Cs, hsg⟩ := SH.out.vsig.sgF
                obtain ⟨A2, L2, Cs2, hsg2⟩ := (SH.out.good.rsig i hi y ymH.out).sgF
                have KQ : Hid (Keep (fun _ => False) w wq.drew) := by rw [← hwq]; exact (Ext.keep ⟨_, _, rfl⟩ _).drew
                have SQ : Hid (SI base lo wq.drew h vv pv xv vs n gq gx Gq Cq Gx Cx G C R B v bo bt t0 t1 got) := SH.out.ext KQ.out
                have ex : wq.drew.cell? ⟨gx, i, none⟩ = some (.slice (some ⟨Gx i, 0, none⟩) l (Cx i)) := by rw [← hwq]; exact xc (q2.n + 1) q2.os
                obtain ⟨b0, b1, b2, b3, b4, b5⟩ := SQ.out.box.here
                rw [hsg] at b5
                have hset := Own.set ((SH.out.ext (w' := wq) (by rw [← hwq]; exact Ext.keep ⟨_, _, rfl⟩ _)).xruns.rows i hi) j v (by rw [lH.out]; exact hj)
                rw [hsg] at hset
                have hsetH : Hid (Own _ _ _ _) := hset
                have hrow2 := ((SH.out.ext (w' := wq) (by rw [← hwq]; exact Ext.keep ⟨_, _, rfl⟩ _)).xruns.rows i hi).row
                rw [lH.out] at hrow2
                obtain ⟨m0, m1, m2, m3, m4, m5⟩ := (hrow2.at hj).here
                rw [yH.out, hsg2] at m5
                have hfz : ∀ t, wq.frozen? ⟨Gx i, t, none⟩ = false := fun t => hrow2.frozen t
                clear hset hsg hsg2 hrow2 a0 a1 a2 a3 a4 a5 d0 d1 d2 d3 d4 d5 xc sv sy
                go_upto_region 54 with fail
                rw [hwq]
                clear hwq
                refine region_ways (n := 6) 7 (fun w' => w'.cell? ⟨gx, i, none⟩ = some (.slice (some ⟨Gx i, 0, none⟩) l (Cx i)) ∧ w'.cell? ⟨B, 0, none⟩ = some (.string ⟨#[120]⟩) ∧ w'.cell? ⟨B, 1, none⟩ = some (.string (str v.src)) ∧ w'.cell? ⟨B, 2, none⟩ = some (.string (str v.tgt)) ∧ w'.cell? ⟨B, 3, none⟩ = some (.int .u64 v.s) ∧ w'.cell? ⟨B, 4, none⟩ = some (.int .u64 v.t) ∧ w'.cell? ⟨B, 5, none⟩ = some (.slice A L Cs)) mixed (by simp) (by kernel_rfl) (by kernel_rfl) (by kernel_rfl) (fun _ _ d _ _ h => by cases d <;> exact h) ⟨ex, b0, b1, b2, b3, b4, b5⟩ ?_
                simp only [List.take_succ_cons, List.take_zero]
                iterate 6
                  refine Reads.cons (v := ?_) (by rfl) (fun w hSw => ?_) ?_
                  rotate_left
                  · (try dsimp only at hSw)
                    go_simp
                    try with_reducible rfl
                  simp only [Act.put, List.setIfInBounds_toArray, List.set_cons_zero, List.set_cons_succ]
                refine Reads.nil ?_
                refine Ways.step (k := 6) (f := 1) (by kernel_rfl) rfl (fun Kk hKk => ?_)
                go_simp
                refine hKk.out _ _ (fun _ => ⟨ex, b0, b1, b2, b3, b4, b5⟩) ?_
                clear hKk Kk
                (try simp only [Act.put, List.setIfInBounds_toArray, List.set_cons_zero, List.set_cons_succ])
                refine Ways.step (k := 7) (f := 0) (by kernel_rfl) rfl (fun Kk hKk => ?_)
                go_simp
                refine hKk.out _ _ (fun e => absurd rfl e) ?_
                clear hKk Kk
                (try simp only [Act.put, List.setIfInBounds_toArray, List.set_cons_zero, List.set_cons_succ])
                refine Ways.done (by kernel_rfl) ?_
                have PQ : Hid (PP base POST wq.drew) := ppH.out.next (KQ.out.weak (fun _ _ e => e.elim))
                clear ex b0 b1 b2 b3 b4 b5 m0 m1 m2 m3 m4 m5 hfz
                obtain ⟨Z0, hZ0⟩ : ∃ Z, (((((wq.setCell ⟨Gx i, j * 6, none⟩ (.string ⟨#[120]⟩)).setCell ⟨Gx i, j * 6 + 1, none⟩ (.string (str v.src))).setCell ⟨Gx i, j * 6 + 2, none⟩ (.string (str v.tgt))).setCell ⟨Gx i, j * 6 + 3, none⟩ (.int .u64 v.s)).setCell ⟨Gx i, j * 6 + 4, none⟩ (.int .u64 v.t)).setCell ⟨Gx i, j * 6 + 5, none⟩ (.slice A L Cs) = Z := ⟨_, rfl⟩
                have KZ : Keep (· = Gx i) wq Z0 := by
                  rw [← hZ0]
                  exact (((((((Keep.refl _ wq).setCell (by rfl) _).setCell (by rfl) _).setCell (by rfl) _).setCell (by rfl) _).setCell (by rfl) _).setCell (by rfl) _)
                have OZ : Own Z0 (Gx i) (Cx i) ((R i).set j v) := by rw [← hZ0]; exact hsetH.out
                have fin : Hid (got = false ∧ PP base POST Z0.drew ∧ ∃ R', Done base Z0.drew h vv pv xv vs n gx n bt G C Gx Cx R' t0 t1) := by
                  have KZ' : Keep (· = Gx i) wq.drew Z0.drew := ⟨KZ.os, KZ.tape, KZ.output, KZ.size, KZ.block⟩
                  have hp := hput.out
                  rw [if_pos hc] at hp
                  have hO : Own Z0.drew (Gx i) (Cx i) (put (R i) v) := by rw [hp]; exact OZ.drew
                  obtain ⟨hg, hD⟩ := SQ.out.doneR hvH.out i hi hri.out noH.out KZ' hO
                  exact ⟨hg, PQ.out.next (KZ'.weak fun a _ e => by have := SQ.out.xruns.gb i hi; have := SQ.out.lob; omega), _, hD⟩
                rw [hZ0]
                clear hZ0 hsetH KZ OZ PQ SQ KQ
                go_wp2
                go_roundg 0
                case measure => omega
                case rel => exact ⟨i + 1, by go_num, .inr ⟨rfl, by omega, rfl, fin.out.1, fin.out.2.1, fin.out.2.2⟩⟩
              · have hcd : decide (sc v y < 0) = false := decide_eq_false hc
                go_upto_region 53 with fail
                refine region_ext mixed (by kernel_rfl) ?_
                repeat (open Go.BigFrame in go_big_quiet_step ((go_at_call 9; exact F9 _ _)))
                refine wpQuiet_nil ?_
                rintro _ ⟨q2, rfl⟩
                clear F F9
                go_wp2
                go_roundg 0
                case measure => omega
                case rel =>
                  obtain ⟨s1, s2⟩ := nxt.out q2.n q2.os
                  have hp := hput.out
                  rw [if_neg (by omega)] at hp
                  obtain ⟨hg, hD⟩ := s1.doneR hvH.out i hi hri.out noH.out (Keep.refl _ _) (by rw [hp]; exact s1.xruns.rows i hi)
                  exact ⟨i + 1, by go_num, .inr ⟨rfl, by omega, rfl, hg, s2, _, hD⟩⟩
            · have hzb : (cmpV y v == 0) = false := by simp [hz]
              go_upto_region 51 with fail
              refine region_ext mixed (by kernel_rfl) ?_
              repeat (open Go.BigFrame in go_big_quiet_step ((go_at_call 5; exact F _ _)))
              refine wpQuiet_nil ?_
              rintro _ ⟨q, rfl⟩
              clear F
              go_wp2
              go_roundg (l + 1 - (j + 1))
              case measure => omega
              case rel =>
                refine ⟨j + 1, q.n, q.os, rfl, rfl, by go_num, by omega, fun a ha => ?_, rfl⟩
                by_cases e : a = j
                · subst e; rw [yH.out]; exact hz
                · exact cmpH.out a (by omega)
          · have hj' : ¬ (j : Int) < (l : Int) := by omega
            go_wp2
            go_roundg (n + 1 - (i + 1))
            case measure => omega
            case rel =>
              refine ⟨i + 1, by go_num, .inl ⟨rfl, rfl, by omega, fun a ha => ?_, k2, os2, rfl⟩⟩
              by_cases e : a = i
              · subst e
                exact (put_none fun b hb => cmpH.out b (by rw [lH.out] at hb; omega)).2
              · exact noH.out a (by omega)
      · have hi' : ¬ (i : Int) < (n : Int) := by omega
        have ein : i = n := by omega
        subst ein
        go_wp2
        obtain ⟨s1, s2⟩ := nxt.out k os
        obtain ⟨hg, m, T, hE⟩ := s1.none hvH.out noH.out
        subst hg
        exact hK.out _ _ (t20n POST base _ h vv pv xv vs i gq Gq Cq R B v G C T m bt bo cv av t0 t1 _ _ ⟨rfl, rfl⟩ hE s1.otop s1.top (by have := s1.bl; have := s1.btlo; omega) (by have := s1.lob; have := s1.btlo; omega) s2)
    · have DH : Hid (Done base wr h vv pv xv vs n gx n bt G C Gx Cx R' t0 t1 ∧ PP base POST wr) := ⟨hD, hpp⟩
      clear hD hpp
      subst hgot
      go_wp2
      exact hK.out _ _ (t20f POST base wr h vv pv xv vs n gx n bt G C Gx Cx R' t0 t1 DH.out.1 DH.out.2)

end Go.Proofs.Ybulkdink
