import Derived.Test.YbulkdinkInv
namespace Go.Proofs.Ybulkdink
open Go.ChangeShapes Go.WideShapes Go.ChangeAt Go.RowKit
set_option linter.unusedVariables false
set_option linter.unusedSimpArgs false

/-- a slice of plain votes that came in: its five cells an element, in every world that keeps what was there -/
structure SpecAt (base : Nat) (w : World) (x : Addr) (i : Nat) (s t a b : Int) (g : Value) : Prop where
  c0 : ∀ w', Keep (fun k => base ≤ k) w w' → w'.cell? (x.add (i * 5)) = some (.int .u64 s)
  c1 : ∀ w', Keep (fun k => base ≤ k) w w' → w'.cell? ⟨(x.add (i * 5)).block, (x.add (i * 5)).off + 1, none⟩ = some (.int .u64 t)
  c2 : ∀ w', Keep (fun k => base ≤ k) w w' → w'.cell? ⟨(x.add (i * 5)).block, (x.add (i * 5)).off + 2, none⟩ = some (.int .u8 a)
  c3 : ∀ w', Keep (fun k => base ≤ k) w w' → w'.cell? ⟨(x.add (i * 5)).block, (x.add (i * 5)).off + 3, none⟩ = some (.int .u8 b)
  c4 : ∀ w', Keep (fun k => base ≤ k) w w' → w'.cell? ⟨(x.add (i * 5)).block, (x.add (i * 5)).off + 4, none⟩ = some g
  sg : ∃ p l c, g = .slice p l c
  sp : ∀ w', Keep (fun k => base ≤ k) w w' → Spec w' (.agg #[.int .u64 s, .int .u64 t, .int .u8 a, .int .u8 b, g])

def SpecRow (base : Nat) (w : World) (a : Option Addr) (n : Nat) : Prop := ∀ i, i < n → ∃ x, a = some x ∧ ∃ s t a b g, SpecAt base w x i s t a b g

set_option maxRecDepth 100000 in
set_option maxHeartbeats 8000000 in
theorem t7 {u0 u2 u3 u4 u6 u7 u8 u9 u10 u11 u12 u13 u15 u16 u17 u18 u19 u20 u21 u22 u23 u24 u25 u26 u27 u28 u29 u30 u31 u32 u33 u34 u35 u36 u37 u38 u39 u40 u41 u42 u43 u44 u45 u46 u47 u48 u49 u50 u51 u52 u53 u54 u55 u56 u57 u58 u59 u60 u61 u62 u63 u64 u65 u66 u67 u68 u69 u70 u71 u72 u73 u74 u75 u76 u77 u78 u79 u80 u81 u82 u83 u84 u85 u86 u87 u88 u89 u90 u91 u92 u93 u94 u95 u96 u97 u98 u99 u100 u101 u102 u103 u104 u105 u106 u107 u108 u109 u110 u111 u112 u113 u114 u115 u116 u117 u118 u119 u120 u121 u122 u123 u124 u125 u126 u127 u128 u129 u130 u131 u132 u133 u134 u135 u136 u137 u138 u139 u140 u141 u142 u143 u144 u145 u146 u147 u148 u149 u150 u151 u152 u153 u154 u155 u156 u157 u158 u159 u160 u161 u162 u163 u164 u165 u166 u167 u168 u169 u170 u171 u172 u173 u174 u175 u176 u177 u178 u179 u180 u181 u182 u183 u184 u185 u186 u187 u188 u189 u190 u191 u192 u193 u194 u195 u196 u197 u198 u199 u200 u201 u202 u203 u204 u205 u206 u207 u208 u209 u210 u211 u212 u213 u214 u215 u216 u217 u218 u219 u220 u221 u222 u223 u224 u225 u226 u227 u228 u229 u230 u231 u232 u233 u234 u235 u236 u237 u238 u239 u240 u241 u242 u243 u244 u245 u246 u247 u248 u249 u250 u251 u252 u253 u254 u255 u256 u257 u258 u259 u260 u261 u262 u263 u264 u265 u266 u267 u268 u269 u270 u271 u272 u273 u274 u275 u276 u277 u278 u279 u280 u281 u282 u283 u284 u285 u286 u287 u288 u289 u290 u291 u292 u293 u294 u295 u296 u297 u298 u299 u300 u301 u302 u303 u304 u305 u306 u307 u308 u309 u310 u311 u312 u313 u314 u315 u316 u317 u318 u319 u320 u321 u322 u323 u324 u325 u326 u327 u328 u329 u330 u331 u332 u333 u334 u335 u336 u337 u338 u339 u340 u341 u342 u343 u344 u345 u346 u347 u348 u349 u350 u351 u352 u353 u354 u355 u356 u357 u358 u359 u360 u361 u362 u363 u364 u365 u366 u367 u368 u369 u370 u371 u372 u373 u374 u375 u376 u377 u378 u379 u380 u381 u382 u383 u384 u385 u386 u387 u388 u389 u390 u391 u392 u393 u394 u395 u396 u397 u398 u399 u400 u401 u402 u403 u404 u405 u406 u407 u408 u409 u410 u411 u412 u413 u414 u415 u416 : Value} (POST : Ending → World → Prop) (base : Nat) (w : World) (h : Nat) (vv pv : Value) (vs : List V) (n : Nat) (G C : Nat → Nat) (R : Nat → List V) (t0 t1 : Int) (bs : Nat) (zs zt zx zy : Int) (zg : Value) (a1 : Option Addr) (len1 cap1 : Nat)
    (H : HI base w h vv pv vs n G C R t0 t1) (hn0 : (cat R 0 n).length = 0) (hl1 : len1 ≤ 1000) (rw1 : SpecRow base w a1 len1) (bx : ∀ w', Keep (fun k => base ≤ k) w w' → SpecBox w' bs zs zt zx zy zg) (sp : ∀ w', Keep (fun k => base ≤ k) w w' → Spec w' (.agg #[.int .u64 zs, .int .u64 zt, .int .u8 zx, .int .u8 zy, zg])) (pp : PP base POST w) :
    Code.wp Yba.prog (dropS 7 (Yba.f3.body.getD .skip)) (bodyPost Yba.prog Yba.f3 POST) { tmps := #[u0, (.slice a1 len1 cap1), u2, u3, u4, (.pointer (some ⟨bs, 0, none⟩)), u6, u7, u8, u9, u10, u11, u12, u13, (.pointer (some ⟨h, 0, none⟩)), u15, u16, u17, u18, u19, u20, u21, u22, u23, u24, u25, u26, u27, u28, u29, u30, u31, u32, u33, u34, u35, u36, u37, u38, u39, u40, u41, u42, u43, u44, u45, u46, u47, u48, u49, u50, u51, u52, u53, u54, u55, u56, u57, u58, u59, u60, u61, u62, u63, u64, u65, u66, u67, u68, u69, u70, u71, u72, u73, u74, u75, u76, u77, u78, u79, u80, u81, u82, u83, u84, u85, u86, u87, u88, u89, u90, u91, u92, u93, u94, u95, u96, u97, u98, u99, u100, u101, u102, u103, u104, u105, u106, u107, u108, u109, u110, u111, u112, u113, u114, u115, u116, u117, u118, u119, u120, u121, u122, u123, u124, u125, u126, u127, u128, u129, u130, u131, u132, u133, u134, u135, u136, u137, u138, u139, u140, u141, u142, u143, u144, u145, u146, u147, u148, u149, u150, u151, u152, u153, u154, u155, u156, u157, u158, u159, u160, u161, u162, u163, u164, u165, u166, u167, u168, u169, u170, u171, u172, u173, u174, u175, u176, u177, u178, u179, u180, u181, u182, u183, u184, u185, u186, u187, u188, u189, u190, u191, u192, u193, u194, u195, u196, u197, u198, u199, u200, u201, u202, u203, u204, u205, u206, u207, u208, u209, u210, u211, u212, u213, u214, u215, u216, u217, u218, u219, u220, u221, u222, u223, u224, u225, u226, u227, u228, u229, u230, u231, u232, u233, u234, u235, u236, u237, u238, u239, u240, u241, u242, u243, u244, u245, u246, u247, u248, u249, u250, u251, u252, u253, u254, u255, u256, u257, u258, u259, u260, u261, u262, u263, u264, u265, u266, u267, u268, u269, u270, u271, u272, u273, u274, u275, u276, u277, u278, u279, u280, u281, u282, u283, u284, u285, u286, u287, u288, u289, u290, u291, u292, u293, u294, u295, u296, u297, u298, u299, u300, u301, u302, u303, u304, u305, u306, u307, u308, u309, u310, u311, u312, u313, u314, u315, u316, u317, u318, u319, u320, u321, u322, u323, u324, u325, u326, u327, u328, u329, u330, u331, u332, u333, u334, u335, u336, u337, u338, u339, u340, u341, u342, u343, u344, u345, u346, u347, u348, u349, u350, u351, u352, u353, u354, u355, u356, u357, u358, u359, u360, u361, u362, u363, u364, u365, u366, u367, u368, u369, u370, u371, u372, u373, u374, u375, u376, u377, u378, u379, u380, u381, u382, u383, u384, u385, u386, u387, u388, u389, u390, u391, u392, u393, u394, u395, u396, u397, u398, u399, u400, u401, u402, u403, u404, u405, u406, u407, u408, u409, u410, u411, u412, u413, u414, u415, u416], defers := [] } w := by
  have HH : Hid (HI base w h vv pv vs n G C R t0 t1) := H
  have rwH : Hid (SpecRow base w a1 len1) := rw1
  have bxH : Hid (∀ w', Keep (fun k => base ≤ k) w w' → SpecBox w' bs zs zt zx zy zg) := bx
  have spH : Hid (∀ w', Keep (fun k => base ≤ k) w w' → Spec w' (.agg #[.int .u64 zs, .int .u64 zt, .int .u8 zx, .int .u8 zy, zg])) := sp
  have ppH : Hid (PP base POST w) := pp
  have n0H : Hid ((cat R 0 n).length = 0) := hn0
  clear H bx sp pp rw1 hn0
  obtain ⟨Q, hQ⟩ : ∃ Q, bodyPost Yba.prog Yba.f3 POST = Q := ⟨_, rfl⟩
  rw [hQ]
  simp only [Yba.f3, Option.getD_some, dropS]
  subst hQ
  refine seq_hid fun K1 hK1 => ?_
  go_upto_region 24 with fail
  go_loopg [97] len1 (fun d s97 wr => ∃ i : Nat, d = len1 - i ∧ s97 = .int .i64 i ∧ i ≤ len1 ∧ Keep (fun k => base ≤ k) w wr ∧ ∃ pv vs n G C R t0 t1, HI base wr h vv pv vs n G C R t0 t1 ∧ (cat R 0 n).length ≤ i)
  case atStart => exact ⟨0, rfl, rfl, Nat.zero_le _, Keep.refl _ _, pv, vs, n, G, C, R, t0, t1, HH.out, by have := n0H.out; omega⟩
  case round =>
    obtain ⟨i, hd, rfl, hil, hKr, pv, vs, n, G, C, R, t0, t1, hHI, hlen⟩ := hrel
    have KrH : Hid (Keep (fun k => base ≤ k) w wr) := hKr
    have HrH : Hid (HI base wr h vv pv vs n G C R t0 t1 ∧ (cat R 0 n).length ≤ i) := ⟨hHI, hlen⟩
    clear hKr hHI hlen
    by_cases hi : i < len1
    · have hi' : (i : Int) < (len1 : Int) := by omega
      obtain ⟨x, rfl, s, t, a, b, g, hS⟩ := rwH.out i hi
      have c0 := hS.c0 wr KrH.out
      have c1 := hS.c1 wr KrH.out
      have c2 := hS.c2 wr KrH.out
      have c3 := hS.c3 wr KrH.out
      have c4 := hS.c4 wr KrH.out
      obtain ⟨p, l, c, hg⟩ := hS.sg
      subst hg
      have SpH : Hid (∀ w', Keep (fun k => base ≤ k) w w' → Spec w' (.agg #[.int .u64 s, .int .u64 t, .int .u8 a, .int .u8 b, .slice p l c])) := hS.sp
      clear hS
      obtain ⟨W2, hW2, hE2, hB2, hs2⟩ : ∃ W2, wr.alloc (Obj.cells #[.int .u64 s, .int .u64 t, .int .u8 a, .int .u8 b, .slice p l c] 26) = W2 ∧ Ext wr W2 ∧ W2.heap[wr.heap.size]? = some (.cells #[.int .u64 s, .int .u64 t, .int .u8 a, .int .u8 b, .slice p l c] 26 (0, 0)) ∧ W2.heap.size = wr.heap.size + 1 := ⟨_, rfl, (Ext.refl wr).alloc _, Deep.blk_alloc_new _ _, by simp⟩
      have KE : Keep (fun _ => False) wr W2 := hE2.keep _
      have K2 : Hid (Keep (fun k => base ≤ k) w W2) := KrH.out.trans (KE.weak (fun _ _ e => e.elim))
      have H2 : Hid (HI base W2 h vv pv vs n G C R t0 t1) := HrH.out.1.keep KE
      have b0 : W2.cell? ⟨wr.heap.size, 0, none⟩ = some (.int .u64 s) := (cell_cells hB2 _).trans rfl
      have b1 : W2.cell? ⟨wr.heap.size, 1, none⟩ = some (.int .u64 t) := (cell_cells hB2 _).trans rfl
      have b2 : W2.cell? ⟨wr.heap.size, 2, none⟩ = some (.int .u8 a) := (cell_cells hB2 _).trans rfl
      have b3 : W2.cell? ⟨wr.heap.size, 3, none⟩ = some (.int .u8 b) := (cell_cells hB2 _).trans rfl
      have b4 : W2.cell? ⟨wr.heap.size, 4, none⟩ = some (.slice p l c) := (cell_cells hB2 _).trans rfl
      have Fm := mk_any _ W2 (SpH.out W2 K2.out)
      have nx : Hid (∀ w3 (v : V), W2.grownBy w3 none → v.Ok → SigIn w3 v → Calls Yba.prog 7 #[.pointer (some ⟨h, 0, none⟩), v.val] w3 fun e w' => (∃ bb : Bool, e = .returned (.bool bb)) ∧ Keep (fun k => base ≤ k) w w' ∧ ∃ pv' vs' n' G' C' R' t0' t1', HI base w' h vv pv' vs' n' G' C' R' t0' t1' ∧ (cat R' 0 n').length ≤ i + 1) := fun w3 v hg hok hsv => by
        have K23 : Keep (fun _ => False) W2 w3 := (Keep.refl _ W2).grown hg (by simp)
        have H3 := H2.out.keep K23
        refine (hold_any base w3 h vv pv vs n G C R t0 t1 v H3.hist H3.good hok hsv H3.bb (fun hA i hi => has_false.1 ((above_none H3.topi hA).2 i hi))).mono fun e w' hp => ?_
        obtain ⟨hb, hk, pv', vs', n', G', C', R', t0', t1', h1, h2⟩ := H3.held hok hsv (by have := HrH.out.2; omega) hp
        exact ⟨hb, (K2.out.trans (K23.weak (fun _ _ e => e.elim))).trans hk, pv', vs', n', G', C', R', t0', t1', h1, by have := HrH.out.2; omega⟩
      clear hE2 hB2 hs2 KE
      go_wp2_with (first | (go_at_call 4; refine Fm.mono ?_; rintro e w3 ⟨⟨v, hok, hsv, rfl⟩, hg3⟩) | (go_at_call 7; refine (nx.out w3 v hg3 hok hsv).mono ?_; rintro e w4 ⟨⟨bb, rfl⟩, hk4, hx4⟩))
      go_roundg (len1 - (i + 1))
      case measure => omega
      case rel => exact ⟨i + 1, rfl, by go_num, by omega, hk4, hx4⟩
    · have hi' : ¬ (i : Int) < (len1 : Int) := by omega
      go_wp2
      exact hK1.out _ _ (t8 POST base wr h vv pv vs n G C R t0 t1 bs zs zt zx zy zg HrH.out.1 (fun w' k => bxH.out w' (KrH.out.trans (k.weak (fun _ _ e => e.elim)))) (fun w' k => spH.out w' (KrH.out.trans k)) (ppH.out.next KrH.out))

end Go.Proofs.Ybulkdink
