import Derived.Test.YbulkdinkT12
namespace Go.Proofs.Ybulkdink
open Go.ChangeShapes Go.WideShapes Go.ChangeAt Go.RowKit
set_option linter.unusedVariables false
set_option linter.unusedSimpArgs false

set_option maxRecDepth 100000 in
set_option maxHeartbeats 8000000 in
theorem t8 {u0 u1 u2 u3 u4 u6 u7 u8 u9 u10 u11 u12 u13 u15 u16 u17 u18 u19 u20 u21 u22 u23 u24 u25 u26 u27 u28 u29 u30 u31 u32 u33 u34 u35 u36 u37 u38 u39 u40 u41 u42 u43 u44 u45 u46 u47 u48 u49 u50 u51 u52 u53 u54 u55 u56 u57 u58 u59 u60 u61 u62 u63 u64 u65 u66 u67 u68 u69 u70 u71 u72 u73 u74 u75 u76 u77 u78 u79 u80 u81 u82 u83 u84 u85 u86 u87 u88 u89 u90 u91 u92 u93 u94 u95 u96 u97 u98 u99 u100 u101 u102 u103 u104 u105 u106 u107 u108 u109 u110 u111 u112 u113 u114 u115 u116 u117 u118 u119 u120 u121 u122 u123 u124 u125 u126 u127 u128 u129 u130 u131 u132 u133 u134 u135 u136 u137 u138 u139 u140 u141 u142 u143 u144 u145 u146 u147 u148 u149 u150 u151 u152 u153 u154 u155 u156 u157 u158 u159 u160 u161 u162 u163 u164 u165 u166 u167 u168 u169 u170 u171 u172 u173 u174 u175 u176 u177 u178 u179 u180 u181 u182 u183 u184 u185 u186 u187 u188 u189 u190 u191 u192 u193 u194 u195 u196 u197 u198 u199 u200 u201 u202 u203 u204 u205 u206 u207 u208 u209 u210 u211 u212 u213 u214 u215 u216 u217 u218 u219 u220 u221 u222 u223 u224 u225 u226 u227 u228 u229 u230 u231 u232 u233 u234 u235 u236 u237 u238 u239 u240 u241 u242 u243 u244 u245 u246 u247 u248 u249 u250 u251 u252 u253 u254 u255 u256 u257 u258 u259 u260 u261 u262 u263 u264 u265 u266 u267 u268 u269 u270 u271 u272 u273 u274 u275 u276 u277 u278 u279 u280 u281 u282 u283 u284 u285 u286 u287 u288 u289 u290 u291 u292 u293 u294 u295 u296 u297 u298 u299 u300 u301 u302 u303 u304 u305 u306 u307 u308 u309 u310 u311 u312 u313 u314 u315 u316 u317 u318 u319 u320 u321 u322 u323 u324 u325 u326 u327 u328 u329 u330 u331 u332 u333 u334 u335 u336 u337 u338 u339 u340 u341 u342 u343 u344 u345 u346 u347 u348 u349 u350 u351 u352 u353 u354 u355 u356 u357 u358 u359 u360 u361 u362 u363 u364 u365 u366 u367 u368 u369 u370 u371 u372 u373 u374 u375 u376 u377 u378 u379 u380 u381 u382 u383 u384 u385 u386 u387 u388 u389 u390 u391 u392 u393 u394 u395 u396 u397 u398 u399 u400 u401 u402 u403 u404 u405 u406 u407 u408 u409 u410 u411 u412 u413 u414 u415 u416 : Value} (POST : Ending → World → Prop) (base : Nat) (w : World) (h : Nat) (vv pv : Value) (vs : List V) (n : Nat) (G C : Nat → Nat) (R : Nat → List V) (t0 t1 : Int) (bs : Nat) (zs zt zx zy : Int) (zg : Value)
    (H : HI base w h vv pv vs n G C R t0 t1) (bx : ∀ w', Keep (fun _ => False) w w' → SpecBox w' bs zs zt zx zy zg) (sp : ∀ w', Keep (fun k => base ≤ k) w w' → Spec w' (.agg #[.int .u64 zs, .int .u64 zt, .int .u8 zx, .int .u8 zy, zg])) (pp : PP base POST w) :
    Code.wp Yba.prog (dropS 8 (Yba.f3.body.getD .skip)) (bodyPost Yba.prog Yba.f3 POST) { tmps := #[u0, u1, u2, u3, u4, (.pointer (some ⟨bs, 0, none⟩)), u6, u7, u8, u9, u10, u11, u12, u13, (.pointer (some ⟨h, 0, none⟩)), u15, u16, u17, u18, u19, u20, u21, u22, u23, u24, u25, u26, u27, u28, u29, u30, u31, u32, u33, u34, u35, u36, u37, u38, u39, u40, u41, u42, u43, u44, u45, u46, u47, u48, u49, u50, u51, u52, u53, u54, u55, u56, u57, u58, u59, u60, u61, u62, u63, u64, u65, u66, u67, u68, u69, u70, u71, u72, u73, u74, u75, u76, u77, u78, u79, u80, u81, u82, u83, u84, u85, u86, u87, u88, u89, u90, u91, u92, u93, u94, u95, u96, u97, u98, u99, u100, u101, u102, u103, u104, u105, u106, u107, u108, u109, u110, u111, u112, u113, u114, u115, u116, u117, u118, u119, u120, u121, u122, u123, u124, u125, u126, u127, u128, u129, u130, u131, u132, u133, u134, u135, u136, u137, u138, u139, u140, u141, u142, u143, u144, u145, u146, u147, u148, u149, u150, u151, u152, u153, u154, u155, u156, u157, u158, u159, u160, u161, u162, u163, u164, u165, u166, u167, u168, u169, u170, u171, u172, u173, u174, u175, u176, u177, u178, u179, u180, u181, u182, u183, u184, u185, u186, u187, u188, u189, u190, u191, u192, u193, u194, u195, u196, u197, u198, u199, u200, u201, u202, u203, u204, u205, u206, u207, u208, u209, u210, u211, u212, u213, u214, u215, u216, u217, u218, u219, u220, u221, u222, u223, u224, u225, u226, u227, u228, u229, u230, u231, u232, u233, u234, u235, u236, u237, u238, u239, u240, u241, u242, u243, u244, u245, u246, u247, u248, u249, u250, u251, u252, u253, u254, u255, u256, u257, u258, u259, u260, u261, u262, u263, u264, u265, u266, u267, u268, u269, u270, u271, u272, u273, u274, u275, u276, u277, u278, u279, u280, u281, u282, u283, u284, u285, u286, u287, u288, u289, u290, u291, u292, u293, u294, u295, u296, u297, u298, u299, u300, u301, u302, u303, u304, u305, u306, u307, u308, u309, u310, u311, u312, u313, u314, u315, u316, u317, u318, u319, u320, u321, u322, u323, u324, u325, u326, u327, u328, u329, u330, u331, u332, u333, u334, u335, u336, u337, u338, u339, u340, u341, u342, u343, u344, u345, u346, u347, u348, u349, u350, u351, u352, u353, u354, u355, u356, u357, u358, u359, u360, u361, u362, u363, u364, u365, u366, u367, u368, u369, u370, u371, u372, u373, u374, u375, u376, u377, u378, u379, u380, u381, u382, u383, u384, u385, u386, u387, u388, u389, u390, u391, u392, u393, u394, u395, u396, u397, u398, u399, u400, u401, u402, u403, u404, u405, u406, u407, u408, u409, u410, u411, u412, u413, u414, u415, u416], defers := [] } w := by
  have HH : Hid (HI base w h vv pv vs n G C R t0 t1) := H
  have bxH : Hid (∀ w', Keep (fun _ => False) w w' → SpecBox w' bs zs zt zx zy zg) := bx
  have spH : Hid (∀ w', Keep (fun k => base ≤ k) w w' → Spec w' (.agg #[.int .u64 zs, .int .u64 zt, .int .u8 zx, .int .u8 zy, zg])) := sp
  have ppH : Hid (PP base POST w) := pp
  clear H bx sp pp
  have hnb : n ≤ 100000 := Nat.le_trans (cat_len_ge HH.out.good.rne) HH.out.good.rlen
  have sgv : Hid (∀ u ∈ vs, SgF u) := fun u hu => (HH.out.good.vsig u hu).sgF
  have lv : Hid (vs.length ≤ 1000000) := by have := HH.out.good.vlen; show vs.length ≤ 1000000; omega
  have hc : ∀ (w' : World), Keep (fun _ => False) w w' → ∀ i u, (#[.string ⟨#[120]⟩, vv, pv, .int .u64 t0, .int .u64 t1, .int .u64 0, .int .u64 0, .bool false] : Array Value)[i]? = some u → w'.cell? ⟨h, i, none⟩ = some u := fun w' k i u hu => by
    have hb := (HH.out.keep k).hist.cells
    unfold HCells at hb
    rw [cell_cells hb]
    exact hu
  have c1 := hc w (Keep.refl _ _) 1 _ rfl
  have hcH : Hid (∀ (w' : World), Keep (fun _ => False) w w' → ∀ i u, (#[.string ⟨#[120]⟩, vv, pv, .int .u64 t0, .int .u64 t1, .int .u64 0, .int .u64 0, .bool false] : Array Value)[i]? = some u → w'.cell? ⟨h, i, none⟩ = some u) := hc
  clear hc
  obtain ⟨Q, hQ⟩ : ∃ Q, bodyPost Yba.prog Yba.f3 POST = Q := ⟨_, rfl⟩
  rw [hQ]
  simp only [Yba.f3, Option.getD_some, dropS]
  subst hQ
  refine seq_hid fun K1 hK1 => ?_
  go_wp2_with (at_builtin; refine wpList_copy w (.tmp 109) base vs vv HH.out.hist.vown sgv.out lv.out rfl rfl rfl ?_; intro xv w1 hown1 hK1')
  refine hK1.out _ _ ?_
  clear hK1 K1 c1
  refine seq_hid fun K2 hK2 => ?_
  have o1 : Hid (w1.ownsRow w.heap.size 29 6 xv vs.length (cellsOf vs) ∧ Keep (fun _ => False) w w1) := ⟨hown1, hK1'⟩
  have c2 := hcH.out w1 hK1' 2 _ rfl
  have src : Src base w1 pv n G C R := by
    have H1 := HH.out.keep hK1'
    exact ⟨⟨H1.hist.pown, H1.hist.rows, H1.hist.gb, H1.hist.inj⟩, fun i hi u hu => (HH.out.good.rsig i hi u hu).sgF, HH.out.good.rne, fun i hi => by have := cat_len_at (R := R) hi; have := HH.out.good.rlen; omega, by omega⟩
  have F := runs_any base pv n G C R w1 src
  clear hown1 hK1' src
  go_wp2_with (go_at_call 8; refine F.mono ?_; rintro e w2 ⟨gq, Gq, Cq, rfl, hR2, hK2'⟩)
  refine hK2.out _ _ ?_
  clear hK2 K2 F c2
  refine seq_hid fun K3 hK3 => ?_
  have K02 : Keep (fun _ => False) w w2 := o1.out.2.trans hK2'
  have c3 := hcH.out w2 K02 3 _ rfl
  have c4 := hcH.out w2 K02 4 _ rfl
  obtain ⟨W3, hW3, hE3, hB3, hs3⟩ := tlay w2 t0 t1
  have r2 : Hid (Runs w1.heap.size w2 (.slice (some ⟨gq, 0, none⟩) n n) n Gq Cq R ∧ Keep (fun _ => False) w1 w2 ∧ Keep (fun _ => False) w w2) := ⟨hR2, hK2', K02⟩
  have e3 : Hid (Ext w2 W3 ∧ W3.heap[w2.heap.size]? = some (.cells #[.int .u64 t0, .int .u64 t1] 35 (0, 0)) ∧ W3.heap.size = w2.heap.size + 1) := ⟨hE3, hB3, hs3⟩
  have K03 : Hid (Keep (fun _ => False) w W3) := K02.trans (hE3.keep _)
  clear hR2 hK2' K02 hE3 hB3 hs3
  go_wp2
  refine hK3.out _ _ ?_
  clear hK3 K3 c3 c4 hW3
  refine seq_hid fun K4 hK4 => ?_
  obtain ⟨z0, z1, z2, z3, z4⟩ := bxH.out W3 K03.out
  have Fm := mk_any _ W3 (spH.out W3 (K03.out.weak (fun _ _ e => e.elim)))
  have endg : Hid (∀ w4, W3.grownBy w4 none → Keep (fun _ => False) W3 w4) := fun w4 hg => (Keep.refl _ W3).grown hg (by simp)
  go_wp2_with (go_at_call 4; refine Fm.mono ?_; rintro e w4 ⟨⟨v, hok, hsv, rfl⟩, hg4⟩; obtain ⟨A, L, Cs, hsg⟩ := hsv.form; obtain ⟨W5, hW5, hE5, hB5, hk5, hs5⟩ := vbox w4 v; rw [hsg] at hW5)
  obtain ⟨a1, a2, a3⟩ := r2.out
  obtain ⟨b1, b2, b3⟩ := e3.out
  obtain ⟨c1, c2⟩ := o1.out
  obtain ⟨av, cv, hxv⟩ := owns_form c1
  have K34 := endg.out w4 hg4
  have K35 : Keep (fun _ => False) W3 W5 := K34.trans (hE5.keep _)
  have K05 : Keep (fun _ => False) w W5 := K03.out.trans K35
  have K23 : Keep (fun _ => False) w2 W3 := b1.keep _
  have K25 : Keep (fun _ => False) w2 W5 := K23.trans K35
  have K15 : Keep (fun _ => False) w1 W5 := a2.trans K25
  have xl : w.heap.size ≤ w1.heap.size := c2.size
  have xr : Runs w.heap.size W5 (.slice (some ⟨gq, 0, none⟩) n n) n Gq Cq R := by
    have r := a1.keep K25 (fun _ _ e => e) (fun _ _ e => e)
    refine ⟨⟨r.own.1, ?_⟩, r.rows, fun i hi => Nat.le_trans xl (r.gb i hi), r.inj⟩
    rcases r.own.2 with h1 | ⟨g, cap, cur, h1, h2, h3⟩
    · exact .inl h1
    · exact .inr ⟨g, cap, cur, h1, Nat.le_trans xl h2, h3⟩
  have H5 := HH.out.keep K05
  have hxo : W5.ownsRow w.heap.size 29 6 xv vs.length (cellsOf vs) := owns_of_block c1 fun i hi => K15.block i (c1.lt i hi).2 id
  rw [hxv] at hxo ⊢
  have sz4 : w.heap.size ≤ w4.heap.size := Nat.le_trans K03.out.size K34.size
  have sz2 : w.heap.size ≤ w2.heap.size := a3.size
  exact hK4.out _ _ (t12 POST base w.heap.size W5 h vv pv vs n gq Gq Cq G C R w4.heap.size v w2.heap.size cv av t0 t1
    ⟨H5.hist, HH.out.hist.lt, H5.good, H5.topi, hxo, xr, hB5, by omega, sz4, hok, hsv.extE hE5, (K35.block w2.heap.size (by omega) id).trans b2, sz2, H5.bb⟩ (ppH.out.next (K05.weak (fun _ _ e => e.elim))))

end Go.Proofs.Ybulkdink
