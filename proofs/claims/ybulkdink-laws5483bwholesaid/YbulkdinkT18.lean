import Derived.Test.YbulkdinkT19
namespace Go.Proofs.Ybulkdink
open Go.ChangeShapes Go.WideShapes Go.ChangeAt Go.RowKit
set_option linter.unusedVariables false
set_option linter.unusedSimpArgs false

set_option maxRecDepth 100000 in
set_option maxHeartbeats 8000000 in
theorem t18 {u0 u1 u2 u3 u4 u5 u6 u7 u8 u9 u10 u11 u12 u13 u15 u16 u17 u28 u29 u30 u31 u32 u33 u34 u35 u36 u37 u38 u39 u40 u41 u42 u43 u44 u45 u46 u47 u48 u49 u50 u51 u52 u53 u54 u55 u56 u57 u58 u59 u60 u61 u62 u63 u64 u65 u66 u67 u68 u69 u70 u71 u72 u73 u74 u75 u76 u77 u78 u79 u80 u81 u82 u83 u84 u85 u86 u87 u88 u89 u90 u91 u92 u93 u94 u95 u96 u97 u98 u99 u100 u101 u102 u103 u104 u105 u106 u107 u108 u109 u110 u111 u112 u113 u114 u115 u116 u117 u118 u119 u120 u121 u122 u123 u124 u125 u126 u127 u128 u129 u130 u131 u132 u133 u134 u135 u136 u137 u138 u139 u140 u141 u142 u143 u144 u145 u146 u147 u148 u149 u150 u151 u152 u153 u154 u155 u156 u157 u158 u159 u160 u161 u162 u163 u164 u165 u166 u167 u168 u169 u170 u171 u172 u173 u174 u175 u176 u177 u178 u179 u180 u181 u182 u183 u184 u185 u186 u187 u188 u189 u190 u191 u192 u193 u194 u195 u196 u197 u198 u199 u200 u201 u202 u203 u204 u205 u206 u207 u208 u209 u210 u211 u212 u213 u214 u215 u216 u217 u218 u219 u220 u221 u222 u223 u224 u225 u226 u227 u228 u229 u230 u231 u232 u233 u234 u235 u236 u237 u238 u239 u240 u241 u242 u243 u244 u245 u246 u247 u248 u249 u250 u251 u252 u253 u254 u255 u256 u257 u258 u259 u260 u261 u262 u263 u264 u265 u266 u267 u268 u269 u270 u271 u272 u273 u274 u275 u276 u277 u278 u279 u280 u281 u282 u283 u284 u285 u286 u287 u288 u289 u290 u291 u292 u293 u294 u295 u296 u297 u298 u299 u300 u301 u302 u303 u304 u305 u306 u307 u308 u309 u310 u311 u312 u313 u314 u315 u316 u317 u318 u319 u320 u321 u322 u323 u324 u325 u326 u327 u328 u329 u330 u331 u332 u333 u334 u335 u336 u337 u338 u339 u340 u341 u342 u343 u344 u345 u346 u347 u348 u349 u350 u351 u352 u353 u354 u355 u356 u357 u358 u359 u360 u361 u362 u363 u364 u365 u366 u367 u368 u369 u370 u371 u372 u373 u374 u375 u376 u377 u378 u379 u380 u381 u382 u383 u384 u385 u386 u387 u388 u389 u390 u391 u392 u393 u394 u395 u396 u397 u398 u399 u400 u401 u402 u403 u404 u405 u406 u407 u408 u409 u410 u411 u412 u413 u414 u415 u416 : Value} (POST : Ending → World → Prop) (base lo : Nat) (w : World) (h : Nat) (vv pv xv : Value) (vs : List V) (n gq gx : Nat) (Gq Cq Gx Cx G C : Nat → Nat) (R : Nat → List V) (B : Nat) (v : V) (bo bt cv : Nat) (av : Option Addr) (t0 t1 : Int) (got : Bool)
    (S : SI base lo w h vv pv xv vs n gq gx Gq Cq Gx Cx G C R B v bo bt t0 t1 got) (pp : PP base POST w) :
    Code.wp Yba.prog (dropS 18 (Yba.f3.body.getD .skip)) (bodyPost Yba.prog Yba.f3 POST) { tmps := #[u0, u1, u2, u3, u4, u5, u6, u7, u8, u9, u10, u11, u12, u13, (.pointer (some ⟨h, 0, none⟩)), u15, u16, u17, (.slice av vs.length cv), (.slice (some ⟨gq, 0, none⟩) n n), (.pointer (some ⟨bo, 0, none⟩)), (.pointer (some ⟨B, 0, none⟩)), (.bool got), xv, (.slice (some ⟨gx, 0, none⟩) n n), (.pointer (some ⟨bt, 0, none⟩)), (.bool true), (.bool false), u28, u29, u30, u31, u32, u33, u34, u35, u36, u37, u38, u39, u40, u41, u42, u43, u44, u45, u46, u47, u48, u49, u50, u51, u52, u53, u54, u55, u56, u57, u58, u59, u60, u61, u62, u63, u64, u65, u66, u67, u68, u69, u70, u71, u72, u73, u74, u75, u76, u77, u78, u79, u80, u81, u82, u83, u84, u85, u86, u87, u88, u89, u90, u91, u92, u93, u94, u95, u96, u97, u98, u99, u100, u101, u102, u103, u104, u105, u106, u107, u108, u109, u110, u111, u112, u113, u114, u115, u116, u117, u118, u119, u120, u121, u122, u123, u124, u125, u126, u127, u128, u129, u130, u131, u132, u133, u134, u135, u136, u137, u138, u139, u140, u141, u142, u143, u144, u145, u146, u147, u148, u149, u150, u151, u152, u153, u154, u155, u156, u157, u158, u159, u160, u161, u162, u163, u164, u165, u166, u167, u168, u169, u170, u171, u172, u173, u174, u175, u176, u177, u178, u179, u180, u181, u182, u183, u184, u185, u186, u187, u188, u189, u190, u191, u192, u193, u194, u195, u196, u197, u198, u199, u200, u201, u202, u203, u204, u205, u206, u207, u208, u209, u210, u211, u212, u213, u214, u215, u216, u217, u218, u219, u220, u221, u222, u223, u224, u225, u226, u227, u228, u229, u230, u231, u232, u233, u234, u235, u236, u237, u238, u239, u240, u241, u242, u243, u244, u245, u246, u247, u248, u249, u250, u251, u252, u253, u254, u255, u256, u257, u258, u259, u260, u261, u262, u263, u264, u265, u266, u267, u268, u269, u270, u271, u272, u273, u274, u275, u276, u277, u278, u279, u280, u281, u282, u283, u284, u285, u286, u287, u288, u289, u290, u291, u292, u293, u294, u295, u296, u297, u298, u299, u300, u301, u302, u303, u304, u305, u306, u307, u308, u309, u310, u311, u312, u313, u314, u315, u316, u317, u318, u319, u320, u321, u322, u323, u324, u325, u326, u327, u328, u329, u330, u331, u332, u333, u334, u335, u336, u337, u338, u339, u340, u341, u342, u343, u344, u345, u346, u347, u348, u349, u350, u351, u352, u353, u354, u355, u356, u357, u358, u359, u360, u361, u362, u363, u364, u365, u366, u367, u368, u369, u370, u371, u372, u373, u374, u375, u376, u377, u378, u379, u380, u381, u382, u383, u384, u385, u386, u387, u388, u389, u390, u391, u392, u393, u394, u395, u396, u397, u398, u399, u400, u401, u402, u403, u404, u405, u406, u407, u408, u409, u410, u411, u412, u413, u414, u415, u416], defers := [] } w := by
  have SH : Hid (SI base lo w h vv pv xv vs n gq gx Gq Cq Gx Cx G C R B v bo bt t0 t1 got) := S
  have ppH : Hid (PP base POST w) := pp
  clear S pp
  have nxt : Hid (∀ k os, SI base lo (ext w k os) h vv pv xv vs n gq gx Gq Cq Gx Cx G C R B v bo bt t0 t1 got ∧ PP base POST (ext w k os)) := fun k os => by
    have KE : Keep (fun _ => False) w (ext w k os) := Ext.keep ⟨_, _, rfl⟩ _
    exact ⟨SH.out.ext KE, ppH.out.next (KE.weak (fun _ _ e => e.elim))⟩
  have hPl := Pl.some
  obtain ⟨l, hl⟩ : ∃ l, vs.length = l := ⟨_, rfl⟩
  have lH : Hid (vs.length = l) := hl
  have hlb : l ≤ 1000 := hl ▸ SH.out.good.vlen
  obtain ⟨ax, cx, hxv⟩ := owns_form SH.out.xown
  rw [hl] at hxv ⊢
  have xvH : Hid (xv = .slice ax l cx) := hxv
  rw [hxv]
  clear hl hxv
  obtain ⟨Q, hQ⟩ : ∃ Q, bodyPost Yba.prog Yba.f3 POST = Q := ⟨_, rfl⟩
  rw [hQ]
  simp only [Yba.f3, Option.getD_some, dropS]
  subst hQ
  refine seq_hid fun K hK => ?_
  go_upto_region 39 with fail
  go_loopg [27, 28] (l + 1) (fun d s27 s28 wr => ∃ (i k : Nat) (os : List Obj), d = l + 1 - i ∧ s27 = .bool false ∧ s28 = .int .i64 i ∧ i ≤ l ∧ (∀ a, a < i → cmpV (nth vs a) v ≠ 0) ∧ wr = ext w k os)
  case atStart => exact ⟨0, 0, [], rfl, rfl, rfl, Nat.zero_le _, fun a ha => absurd ha (Nat.not_lt_zero _), ext_zero w⟩
  case round =>
    obtain ⟨i, k, os, hd, rfl, rfl, hil, hcmp, rfl⟩ := hrel
    have cmpH : Hid (∀ a, a < i → cmpV (nth vs a) v ≠ 0) := hcmp
    clear hcmp
    by_cases hi : i < l
    · have hi' : (i : Int) < (l : Int) := by omega
      obtain ⟨g, c, hform, hglo, hgl⟩ := SH.out.xown.form (by rw [lH.out]; omega)
      rw [lH.out] at hform
      have eax : ax = some ⟨g, 0, none⟩ := by have := xvH.out; rw [hform] at this; cases this; rfl
      have ecx : c = cx := by have := xvH.out; rw [hform] at this; cases this; rfl
      subst eax
      subst ecx
      have hOw : Hid (∀ k os, Own (ext w k os) g c vs) := fun k os => by
        have h1 := (nxt.out k os).1.xown
        rw [hform, ← lH.out] at h1
        exact (own_of_owns (owns_zero h1)).2
      have hrow : VRow w g l (nth vs) := by
        have h1 := SH.out.xown
        rw [hform, ← lH.out] at h1
        have h2 := (own_of_owns (owns_zero h1)).2.row
        rw [lH.out] at h2
        exact h2
      obtain ⟨y, hy⟩ : ∃ y, nth vs i = y := ⟨_, rfl⟩
      have yH : Hid (nth vs i = y) := hy
      obtain ⟨a0, a1, a2, a3, a4, a5⟩ := hrow.at hi
      rw [hy] at a1 a2 a3 a4 a5
      have ymem : y ∈ vs := hy ▸ nth_mem (by rw [lH.out]; exact hi)
      have ymH : Hid (y ∈ vs) := ymem
      obtain ⟨d0, d1, d2, d3, d4, d5⟩ := SH.out.box
      have F := fun k os => from_pl (fun w => zcmp y v w (SH.out.good.vok y ymem) SH.out.vok) w k os
      have F9 : ∀ k os, Calls Yba.prog 9 #[v.sg, y.sg] (ext w k os) fun e w' => e = .returned (.int .i64 (sc v y)) ∧ ∃ q : Pl, w' = ext w q.n q.os := fun k os =>
        (bcmp v y _ (SH.out.vsig.ext k os) ((SH.out.good.vsig y ymem).ext k os)).mono fun e w' ⟨h1, h2⟩ => ⟨h1, ⟨k, os⟩, h2⟩
      have formH : Hid (xv = .slice (some ⟨g, 0, none⟩) l c ∧ lo ≤ g) := ⟨hform, hglo⟩
      have hfz : ∀ k os t, (ext w k os).frozen? ⟨g, t, none⟩ = false := fun k os t => (hrow.ext k os).frozen t
      have rowH : Hid (VRow w g l (nth vs)) := hrow
      clear hy ymem hform hglo hgl hrow
      by_cases hz : cmpV y v = 0
      · have hzb : (cmpV y v == 0) = true := by simp [hz]
        have hat := put_at SH.out.good.vsrt (p := i) (by rw [lH.out]; exact hi) (by rw [yH.out]; exact hz)
        have hva : Hid (has vs v = true) := hat.1
        have hput : Hid (put vs v = if sc v y < 0 then vs.set i v else vs) := by have := hat.2; rw [yH.out] at this; exact this
        clear hz hat
        go_upto_region 41 with fail
        refine region_ext mixed (by kernel_rfl) ?_
        repeat (open Go.BigFrame in go_big_quiet_step ((go_at_call 5; exact F _ _)))
        refine wpQuiet_nil ?_
        rintro _ ⟨q, rfl⟩
        by_cases hc : sc v y < 0
        · have hcd : decide (sc v y < 0) = true := decide_eq_true hc
          go_upto_region 43 with fail
          refine region_ext mixed (by kernel_rfl) ?_
          repeat (open Go.BigFrame in go_big_quiet_step ((go_at_call 9; exact F9 _ _)))
          refine wpQuiet_nil ?_
          rintro _ ⟨q2, rfl⟩
          clear F F9
          obtain ⟨A, L, Cs, hsg⟩ := SH.out.vsig.sgF
          obtain ⟨A2, L2, Cs2, hsg2⟩ := (SH.out.good.vsig y ymH.out).sgF
          rw [hsg2] at a5
          rw [hsg] at d5
          have hset := Own.set (hOw.out q2.n q2.os) i v (by rw [lH.out]; exact hi)
          rw [hsg] at hset
          obtain ⟨Z, hZ⟩ : ∃ Z, ((((((ext w q2.n q2.os).setCell ⟨g, i * 6, none⟩ (.string ⟨#[120]⟩)).setCell ⟨g, i * 6 + 1, none⟩ (.string (str v.src))).setCell ⟨g, i * 6 + 2, none⟩ (.string (str v.tgt))).setCell ⟨g, i * 6 + 3, none⟩ (.int .u64 v.s)).setCell ⟨g, i * 6 + 4, none⟩ (.int .u64 v.t)).setCell ⟨g, i * 6 + 5, none⟩ (.slice A L Cs) = Z := ⟨_, rfl⟩
          have KZ : Keep (· = g) (ext w q2.n q2.os) Z := by
            rw [← hZ]
            exact (((((((Keep.refl _ _).setCell (by rfl) _).setCell (by rfl) _).setCell (by rfl) _).setCell (by rfl) _).setCell (by rfl) _).setCell (by rfl) _)
          rw [hZ] at hset
          have fin : Hid (got = false ∧ PP base POST Z ∧ Done base Z h vv pv xv (put vs v) n gx n bt G C Gx Cx R t0 t1) := by
            obtain ⟨s1, s2⟩ := nxt.out q2.n q2.os
            have hp := hput.out
            rw [if_pos hc] at hp
            rw [← hp] at hset
            obtain ⟨hg, hD⟩ := s1.doneV hva.out (KZ.weak fun a _ e => by rw [formH.out.1, e]; rfl) (by
              have h1 := hset.owns
              rw [put_length] at h1
              rw [formH.out.1, ← lH.out]
              exact h1)
            exact ⟨hg, s2.next (KZ.weak fun a _ e => by have := formH.out.2; have := SH.out.lob; omega), hD⟩
          have ZH : Hid (_ = Z) := hZ
          clear hset hZ KZ hsg hsg2
          go_wp2
          rw [ZH.out, ← formH.out.1]
          obtain ⟨f1, f2, f3⟩ := fin.out
          subst f1
          exact hK.out _ _ (t19f POST base Z h vv pv xv (put vs v) n gx n bt G C Gx Cx R t0 t1 f3 f2)
        · have hcd : decide (sc v y < 0) = false := decide_eq_false hc
          go_upto_region 43 with fail
          refine region_ext mixed (by kernel_rfl) ?_
          repeat (open Go.BigFrame in go_big_quiet_step ((go_at_call 9; exact F9 _ _)))
          refine wpQuiet_nil ?_
          rintro _ ⟨q2, rfl⟩
          clear F F9
          go_wp2
          rw [← formH.out.1]
          obtain ⟨s1, s2⟩ := nxt.out q2.n q2.os
          have hp := hput.out
          rw [if_neg (by omega)] at hp
          obtain ⟨hg, hD⟩ := s1.doneV hva.out (Keep.refl _ _) (by rw [hp]; exact owns_zero s1.xown)
          subst hg
          exact hK.out _ _ (t19f POST base _ h vv pv xv (put vs v) n gx n bt G C Gx Cx R t0 t1 hD s2)
      · have hzb : (cmpV y v == 0) = false := by simp [hz]
        go_upto_region 41 with fail
        refine region_ext mixed (by kernel_rfl) ?_
        repeat (open Go.BigFrame in go_big_quiet_step ((go_at_call 5; exact F _ _)))
        refine wpQuiet_nil ?_
        rintro _ ⟨q, rfl⟩
        clear F F9
        go_wp2
        go_roundg (l + 1 - (i + 1))
        case measure => omega
        case rel =>
          refine ⟨i + 1, q.n, q.os, rfl, rfl, by go_num, by omega, fun a ha => ?_, rfl⟩
          by_cases e : a = i
          · subst e; rw [yH.out]; exact hz
          · exact cmpH.out a (by omega)
    · have hi' : ¬ (i : Int) < (l : Int) := by omega
      go_wp2
      obtain ⟨s1, s2⟩ := nxt.out k os
      have hno : has vs v = false := (put_none fun b hb => cmpH.out b (by rw [lH.out] at hb; omega)).2
      rw [← xvH.out]
      have hll := lH.out
      subst hll
      exact hK.out _ _ (t19s POST base lo _ h vv pv xv vs n gq gx Gq Cq Gx Cx G C R B v bo bt cv av t0 t1 got s1 hno s2)

end Go.Proofs.Ybulkdink
