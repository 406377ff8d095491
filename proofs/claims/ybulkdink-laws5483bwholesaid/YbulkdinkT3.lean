import Derived.Test.YbulkdinkT4
namespace Go.Proofs.Ybulkdink
open Go.ChangeShapes Go.WideShapes Go.ChangeAt Go.RowKit
set_option linter.unusedVariables false
set_option linter.unusedSimpArgs false

theorem VI.keep {base : Nat} {w w' : World} {vv : Value} {us : List V} (h : VI base w vv us) (k : Keep (fun _ => False) w w') : VI base w' vv us :=
  ⟨owns_of_block h.own fun i hi => k.block i (h.own.lt i hi).2 id, h.ok, fun u hu => (h.sig u hu).keep k (fun _ _ _ e => e.elim), h.dis, h.len, Nat.le_trans h.bb k.size⟩

set_option maxRecDepth 100000 in
set_option maxHeartbeats 8000000 in
theorem t3 {u2 u3 u4 u6 u8 u9 u10 u11 u12 u13 u14 u15 u16 u17 u18 u19 u20 u21 u22 u23 u24 u25 u26 u27 u28 u29 u30 u31 u32 u33 u34 u35 u36 u37 u38 u39 u40 u41 u42 u43 u44 u45 u46 u47 u48 u49 u50 u51 u52 u53 u54 u55 u56 u57 u58 u59 u60 u61 u62 u63 u64 u65 u66 u67 u68 u69 u70 u71 u72 u73 u74 u75 u76 u77 u78 u79 u80 u81 u82 u83 u84 u85 u86 u87 u88 u89 u90 u91 u92 u93 u94 u95 u96 u97 u98 u99 u100 u101 u102 u103 u104 u105 u106 u107 u108 u109 u110 u111 u112 u113 u114 u115 u116 u117 u118 u119 u120 u121 u122 u123 u124 u125 u126 u127 u128 u129 u130 u131 u132 u133 u134 u135 u136 u137 u138 u139 u140 u141 u142 u143 u144 u145 u146 u147 u148 u149 u150 u151 u152 u153 u154 u155 u156 u157 u158 u159 u160 u161 u162 u163 u164 u165 u166 u167 u168 u169 u170 u171 u172 u173 u174 u175 u176 u177 u178 u179 u180 u181 u182 u183 u184 u185 u186 u187 u188 u189 u190 u191 u192 u193 u194 u195 u196 u197 u198 u199 u200 u201 u202 u203 u204 u205 u206 u207 u208 u209 u210 u211 u212 u213 u214 u215 u216 u217 u218 u219 u220 u221 u222 u223 u224 u225 u226 u227 u228 u229 u230 u231 u232 u233 u234 u235 u236 u237 u238 u239 u240 u241 u242 u243 u244 u245 u246 u247 u248 u249 u250 u251 u252 u253 u254 u255 u256 u257 u258 u259 u260 u261 u262 u263 u264 u265 u266 u267 u268 u269 u270 u271 u272 u273 u274 u275 u276 u277 u278 u279 u280 u281 u282 u283 u284 u285 u286 u287 u288 u289 u290 u291 u292 u293 u294 u295 u296 u297 u298 u299 u300 u301 u302 u303 u304 u305 u306 u307 u308 u309 u310 u311 u312 u313 u314 u315 u316 u317 u318 u319 u320 u321 u322 u323 u324 u325 u326 u327 u328 u329 u330 u331 u332 u333 u334 u335 u336 u337 u338 u339 u340 u341 u342 u343 u344 u345 u346 u347 u348 u349 u350 u351 u352 u353 u354 u355 u356 u357 u358 u359 u360 u361 u362 u363 u364 u365 u366 u367 u368 u369 u370 u371 u372 u373 u374 u375 u376 u377 u378 u379 u380 u381 u382 u383 u384 u385 u386 u387 u388 u389 u390 u391 u392 u393 u394 u395 u396 u397 u398 u399 u400 u401 u402 u403 u404 u405 u406 u407 u408 u409 u410 u411 u412 u413 u414 u415 u416 : Value} (POST : Ending → World → Prop) (base : Nat) (w : World) (bs : Nat) (zs zt zx zy : Int) (zg : Value) (a0 a1 : Option Addr) (len0 cap0 len1 cap1 : Nat)
    (hl0 : len0 ≤ 1000) (hl1 : len1 ≤ 1000) (hb : base ≤ w.heap.size) (rw0 : ∀ w', Keep (fun k => base ≤ k) w w' → SpecRow base w' a0 len0) (rw1 : ∀ w', Keep (fun k => base ≤ k) w w' → SpecRow base w' a1 len1) (bx : ∀ w', Keep (fun k => base ≤ k) w w' → SpecBox w' bs zs zt zx zy zg) (sp : ∀ w', Keep (fun k => base ≤ k) w w' → Spec w' (.agg #[.int .u64 zs, .int .u64 zt, .int .u8 zx, .int .u8 zy, zg])) (pp : PP base POST w) :
    Code.wp Yba.prog (dropS 3 (Yba.f3.body.getD .skip)) (bodyPost Yba.prog Yba.f3 POST) { tmps := #[(.slice a0 len0 cap0), (.slice a1 len1 cap1), u2, u3, u4, (.pointer (some ⟨bs, 0, none⟩)), u6, (.slice none 0 0), u8, u9, u10, u11, u12, u13, u14, u15, u16, u17, u18, u19, u20, u21, u22, u23, u24, u25, u26, u27, u28, u29, u30, u31, u32, u33, u34, u35, u36, u37, u38, u39, u40, u41, u42, u43, u44, u45, u46, u47, u48, u49, u50, u51, u52, u53, u54, u55, u56, u57, u58, u59, u60, u61, u62, u63, u64, u65, u66, u67, u68, u69, u70, u71, u72, u73, u74, u75, u76, u77, u78, u79, u80, u81, u82, u83, u84, u85, u86, u87, u88, u89, u90, u91, u92, u93, u94, u95, u96, u97, u98, u99, u100, u101, u102, u103, u104, u105, u106, u107, u108, u109, u110, u111, u112, u113, u114, u115, u116, u117, u118, u119, u120, u121, u122, u123, u124, u125, u126, u127, u128, u129, u130, u131, u132, u133, u134, u135, u136, u137, u138, u139, u140, u141, u142, u143, u144, u145, u146, u147, u148, u149, u150, u151, u152, u153, u154, u155, u156, u157, u158, u159, u160, u161, u162, u163, u164, u165, u166, u167, u168, u169, u170, u171, u172, u173, u174, u175, u176, u177, u178, u179, u180, u181, u182, u183, u184, u185, u186, u187, u188, u189, u190, u191, u192, u193, u194, u195, u196, u197, u198, u199, u200, u201, u202, u203, u204, u205, u206, u207, u208, u209, u210, u211, u212, u213, u214, u215, u216, u217, u218, u219, u220, u221, u222, u223, u224, u225, u226, u227, u228, u229, u230, u231, u232, u233, u234, u235, u236, u237, u238, u239, u240, u241, u242, u243, u244, u245, u246, u247, u248, u249, u250, u251, u252, u253, u254, u255, u256, u257, u258, u259, u260, u261, u262, u263, u264, u265, u266, u267, u268, u269, u270, u271, u272, u273, u274, u275, u276, u277, u278, u279, u280, u281, u282, u283, u284, u285, u286, u287, u288, u289, u290, u291, u292, u293, u294, u295, u296, u297, u298, u299, u300, u301, u302, u303, u304, u305, u306, u307, u308, u309, u310, u311, u312, u313, u314, u315, u316, u317, u318, u319, u320, u321, u322, u323, u324, u325, u326, u327, u328, u329, u330, u331, u332, u333, u334, u335, u336, u337, u338, u339, u340, u341, u342, u343, u344, u345, u346, u347, u348, u349, u350, u351, u352, u353, u354, u355, u356, u357, u358, u359, u360, u361, u362, u363, u364, u365, u366, u367, u368, u369, u370, u371, u372, u373, u374, u375, u376, u377, u378, u379, u380, u381, u382, u383, u384, u385, u386, u387, u388, u389, u390, u391, u392, u393, u394, u395, u396, u397, u398, u399, u400, u401, u402, u403, u404, u405, u406, u407, u408, u409, u410, u411, u412, u413, u414, u415, u416], defers := [] } w := by
  have rw0H : Hid (∀ w', Keep (fun k => base ≤ k) w w' → SpecRow base w' a0 len0) := rw0
  have rwH : Hid (∀ w', Keep (fun k => base ≤ k) w w' → SpecRow base w' a1 len1) := rw1
  have bxH : Hid (∀ w', Keep (fun k => base ≤ k) w w' → SpecBox w' bs zs zt zx zy zg) := bx
  have spH : Hid (∀ w', Keep (fun k => base ≤ k) w w' → Spec w' (.agg #[.int .u64 zs, .int .u64 zt, .int .u8 zx, .int .u8 zy, zg])) := sp
  have ppH : Hid (PP base POST w) := pp
  have hbH : Hid (base ≤ w.heap.size) := hb
  clear bx sp pp rw1 rw0 hb
  obtain ⟨in2, ki, kz0, kz1, kz2⟩ := info_parts inf29
  have infv : Hid (Yba.prog.info? 29 = some in2 ∧ in2.zero = some (.agg #[.string ⟨#[]⟩, .string ⟨#[]⟩, .string ⟨#[]⟩, .int .u64 0, .int .u64 0, .slice none 0 0]) ∧ in2.size = 6 ∧ in2.bytes = 88) := ⟨ki, kz0, kz1, kz2⟩
  clear ki kz0 kz1 kz2
  obtain ⟨Q, hQ⟩ : ∃ Q, bodyPost Yba.prog Yba.f3 POST = Q := ⟨_, rfl⟩
  rw [hQ]
  simp only [Yba.f3, Option.getD_some, dropS]
  subst hQ
  refine seq_hid fun K1 hK1 => ?_
  go_upto_region 5 with fail
  go_loopg [7, 49] len0 (fun d s7 s49 wr => ∃ (i : Nat) (us : List V), d = len0 - i ∧ s49 = .int .i64 i ∧ i ≤ len0 ∧ us.length ≤ i ∧ VI base wr s7 us ∧ Keep (fun k => base ≤ k) w wr)
  case atStart => exact ⟨0, [], rfl, rfl, Nat.zero_le _, Nat.le_refl _, ⟨World.ownsRow_nil _ _ _ _, by simp, by simp, List.Pairwise.nil, by simp, hbH.out⟩, Keep.refl _ _⟩
  case round =>
    obtain ⟨i, us, hd, rfl, hil, hul, hVI, hKr⟩ := hrel
    obtain ⟨av, cv, hform⟩ := owns_form hVI.own
    subst hform
    have KrH : Hid (Keep (fun k => base ≤ k) w wr) := hKr
    obtain ⟨l, hl⟩ : ∃ l, us.length = l := ⟨_, rfl⟩
    have lH : Hid (us.length = l) := hl
    rw [hl] at hVI hul ⊢
    have VH : Hid (VI base wr (.slice av l cv) us) := hVI
    clear hKr hVI hl
    by_cases hi : i < len0
    · have hi' : (i : Int) < (len0 : Int) := by omega
      obtain ⟨x, rfl, s, t, a, b, g, hS⟩ := rw0H.out wr KrH.out i hi
      have c0 := hS.c0 wr (Keep.refl _ _)
      have c1 := hS.c1 wr (Keep.refl _ _)
      have c2 := hS.c2 wr (Keep.refl _ _)
      have c3 := hS.c3 wr (Keep.refl _ _)
      have c4 := hS.c4 wr (Keep.refl _ _)
      obtain ⟨p, l4, c, hg⟩ := hS.sg
      subst hg
      have SpH : Hid (∀ w', Keep (fun k => base ≤ k) wr w' → Spec w' (.agg #[.int .u64 s, .int .u64 t, .int .u8 a, .int .u8 b, .slice p l4 c])) := hS.sp
      clear hS
      obtain ⟨W2, hW2, hE2, hB2, hs2⟩ : ∃ W2, wr.alloc (Obj.cells #[.int .u64 s, .int .u64 t, .int .u8 a, .int .u8 b, .slice p l4 c] 26) = W2 ∧ Ext wr W2 ∧ W2.heap[wr.heap.size]? = some (.cells #[.int .u64 s, .int .u64 t, .int .u8 a, .int .u8 b, .slice p l4 c] 26 (0, 0)) ∧ W2.heap.size = wr.heap.size + 1 := ⟨_, rfl, (Ext.refl wr).alloc _, Deep.blk_alloc_new _ _, by simp⟩
      have KE : Hid (Keep (fun _ => False) wr W2) := hE2.keep _
      have b0 : W2.cell? ⟨wr.heap.size, 0, none⟩ = some (.int .u64 s) := (cell_cells hB2 _).trans rfl
      have b1 : W2.cell? ⟨wr.heap.size, 1, none⟩ = some (.int .u64 t) := (cell_cells hB2 _).trans rfl
      have b2 : W2.cell? ⟨wr.heap.size, 2, none⟩ = some (.int .u8 a) := (cell_cells hB2 _).trans rfl
      have b3 : W2.cell? ⟨wr.heap.size, 3, none⟩ = some (.int .u8 b) := (cell_cells hB2 _).trans rfl
      have b4 : W2.cell? ⟨wr.heap.size, 4, none⟩ = some (.slice p l4 c) := (cell_cells hB2 _).trans rfl
      have Fm := mk_any _ W2 (SpH.out W2 (KE.out.weak (fun _ _ e => e.elim)))
      clear hE2 hB2 hs2
      go_upto_region 10 with (go_at_call 4; refine Fm.mono ?_; rintro e w3 ⟨⟨v, hok, hsv, rfl⟩, hg3⟩; obtain ⟨A, L, Cs, hsg⟩ := hsv.form; obtain ⟨W5, hW5, hE5, hB5, hk5, hs5⟩ := vbox w3 v; rw [hsg] at hW5)
      have K25 : Keep (fun _ => False) W2 W5 := ((Keep.refl _ W2).grown hg3 (by simp)).trans (hE5.keep _)
      have Kr5 : Hid (Keep (fun _ => False) wr W5) := KE.out.trans K25
      have V5 : Hid (VI base W5 (.slice av l cv) us) := VH.out.keep Kr5.out
      obtain ⟨B, hB⟩ : ∃ B, w3.heap.size = B := ⟨_, rfl⟩
      rw [hB] at hB5 hs5 ⊢
      have box5 : Hid (Boxed W5 B v ∧ W5.heap.size = B + 1) := ⟨hB5, hs5⟩
      have sv5 : Hid (SigIn W5 v ∧ v.Ok ∧ v.sg = .slice A L Cs) := ⟨hsv.extE hE5, hok, hsg⟩
      clear c0 c1 c2 c3 c4 b0 b1 b2 b3 b4 Fm hW2 hW5 hE5 hB5 hk5 hs5 hg3 hsv hok hsg K25 hB KE
      go_loopg [11, 57] (l + 1) (fun d s11 s57 wq => ∃ (j k : Nat) (os : List Obj), d = l + 1 - j ∧ s11 = .bool false ∧ s57 = .int .i64 j ∧ j ≤ l ∧ (∀ a, a < j → cmpV (nth us a) v ≠ 0) ∧ wq = ext W5 k os)
      case atStart => exact ⟨0, 0, [], rfl, rfl, rfl, Nat.zero_le _, fun a ha => absurd ha (Nat.not_lt_zero _), ext_zero W5⟩
      case round =>
        obtain ⟨j, k, os, hd2, rfl, rfl, hjl, hcmp, rfl⟩ := hrel
        have cmpH : Hid (∀ a, a < j → cmpV (nth us a) v ≠ 0) := hcmp
        clear hcmp
        obtain ⟨d0, d1, d2, d3, d4, d5⟩ := box5.out.1
        by_cases hj : j < l
        · have hj' : (j : Int) < (l : Int) := by omega
          obtain ⟨g, cc, hfm, hgb, hgl⟩ := V5.out.own.form (by rw [lH.out]; omega)
          rw [lH.out] at hfm
          cases hfm
          have hrow : VRow W5 g l (nth us) := by
            have h1 := V5.out.own
            rw [← lH.out] at h1
            have h2 := (own_of_owns (owns_zero h1)).2.row
            rw [lH.out] at h2
            exact h2
          obtain ⟨y, hy⟩ : ∃ y, nth us j = y := ⟨_, rfl⟩
          have yH : Hid (nth us j = y) := hy
          have ymem : y ∈ us := hy ▸ nth_mem (by rw [lH.out]; exact hj)
          obtain ⟨a0, a1', a2, a3, a4, a5⟩ := hrow.at hj
          rw [hy] at a1' a2 a3 a4 a5
          obtain ⟨A2, L2, Cs2, hsg2⟩ := (V5.out.sig y ymem).sgF
          rw [hsg2] at a5
          obtain ⟨W6, hW6, hE6, hB6, hk6, hs6⟩ := vbox (ext W5 k os) y
          obtain ⟨B6, hB6e⟩ : ∃ B, (ext W5 k os).heap.size = B := ⟨_, rfl⟩
          have B6H : Hid ((ext W5 k os).heap.size = B6) := hB6e
          rw [hsg2] at hW6
          rw [hB6e] at hB6
          have K56 : Keep (fun _ => False) W5 W6 := (Ext.keep (w := W5) ⟨k, os, rfl⟩ _).trans (hE6.keep _)
          have E56 : Hid (Ext W5 W6) := Ext.trans ⟨k, os, rfl⟩ hE6
          have bx6 := hB6.here
          have bv6 := (box5.out.1.keep (by have := box5.out.2; omega) K56 id).here
          have F := zcmp y v W6 (V5.out.ok y ymem) sv5.out.2.1
          have Hy6 : Hid (Boxed W6 B6 y) := hB6
          clear hy ymem hgl hrow hE6 hB6 hk6 hs6 K56 hB6e hsg2
          go_upto_region 12 with fail
          (try rw [hW6])
          (try rw [B6H.out])
          obtain ⟨p0, p1, p2, p3, p4, p5⟩ := bx6
          obtain ⟨r0, r1, r2, r3, r4, r5⟩ := bv6
          clear a0 a1' a2 a3 a4 a5 d0 d1 d2 d3 d4 d5 hW6
          by_cases hz : cmpV y v = 0
          · have hzb : (cmpV y v == 0) = true := by simp [hz]
            have zH : Hid (cmpV y v = 0) := hz
            clear hz
            go_wp2_with (go_at_call 5; refine F.mono ?_; rintro e w7 ⟨rfl, hE7⟩)
            go_roundg (len0 - (i + 1))
            case measure => omega
            case rel =>
              have K57 : Keep (fun _ => False) W5 w7 := (E56.out.keep _).trans (hE7.keep _)
              refine ⟨i + 1, us, rfl, by go_num, by omega, by have := lH.out; omega, V5.out.keep K57, KrH.out.trans (Kr5.out.trans K57 |>.weak (fun _ _ e => e.elim))⟩
          · have hzb : (cmpV y v == 0) = false := by simp [hz]
            have zH : Hid (¬ cmpV y v = 0) := hz
            clear hz
            go_wp2_with (go_at_call 5; refine F.mono ?_; rintro e w7 ⟨rfl, hE7⟩)
            go_roundg (l + 1 - (j + 1))
            case measure => omega
            case rel =>
              obtain ⟨k7, os7, e7⟩ := E56.out.trans hE7
              refine ⟨j + 1, k7, os7, rfl, rfl, by go_num, by omega, fun a ha => ?_, e7⟩
              by_cases e : a = j
              · subst e; rw [yH.out]; exact zH.out
              · exact cmpH.out a (by omega)
        · have hj' : ¬ (j : Int) < (l : Int) := by omega
          obtain ⟨W6, hW6, hE6, hB6, hk6, hs6⟩ := vlay (ext W5 k os) v
          rw [sv5.out.2.2] at hW6 d5
          obtain ⟨B6, hB6e⟩ : ∃ B, (ext W5 k os).heap.size = B := ⟨_, rfl⟩
          have B6H : Hid ((ext W5 k os).heap.size = B6) := hB6e
          rw [hB6e] at hB6
          have K56 : Keep (fun _ => False) W5 W6 := (Ext.keep (w := W5) ⟨k, os, rfl⟩ _).trans (hE6.keep _)
          have K56H : Hid (Keep (fun _ => False) W5 W6) := K56
          have V6 : Hid (VI base W6 (.slice av l cv) us) := V5.out.keep K56
          have o6 : Hid (W6.ownsRow base 29 6 (.slice av l cv) l (cellsOf us)) := by have := V6.out.own; rw [lH.out] at this; exact this
          have bH6 : Hid (W6.heap[(ext W5 k os).heap.size]? = some (.cells v.list.toArray 29 (0, 0))) := by rw [B6H.out]; exact hB6
          have one : Hid (∀ u ∈ v.list, u.oneCell' = true) := list_one v (by rw [sv5.out.2.2]; rfl)
          have hl1' : l + 1 ≤ 1001 := by omega
          have hul' : l ≤ i := hul
          clear hE6 hB6 hk6 hs6 K56 hB6e
          go_wp2_with (at_builtin; refine wpList_append_lies W6 rfl (.tmp 68) (.tmp 70) 27 rfl base 29 in2 _ 6 88 und27 infv.out.1 infv.out.2.1 infv.out.2.2.1 infv.out.2.2.2 rfl (by omega) (.slice av l cv) l (cellsOf us) rfl o6.out ⟨(ext W5 k os).heap.size, 0, none⟩ 1 1 v.list rfl rfl (vnews bH6.out) one.out (by omega) (by simp only [maxLen]; omega) (by omega) V6.out.bb W6.heap.size rfl ?_; intro g7 cap7 w7 hown7 hgr7 hat7 hlt7)
          go_roundg (len0 - (i + 1))
          case measure => omega
          case rel =>
            have K67 : Keep (fun k => Value.ownBlock (.slice av l cv) = some k) W6 w7 := (Keep.refl _ W6).grown hgr7 (fun k e => e)
            have K67b : Keep (fun k => base ≤ k) W6 w7 := K67.weak fun k _ e => (o6.out.lt k e).1
            have sg7 : ∀ u, SigIn W6 u → SigIn w7 u := fun u hu => hu.keep K67 fun a c fz e he => by obtain ⟨c', hb⟩ := owns_type o6.out e; rw [hb] at he; simp at he
            have e6 : cellsOf us ++ v.list = cellsOf (us ++ [v]) := by rw [cellsOf_append]; simp [cellsOf]
            rw [e6] at hown7
            have hlen : (us ++ [v]).length = l + 1 := by simp [lH.out]
            refine ⟨i + 1, us ++ [v], rfl, by go_num, by omega, by rw [hlen]; omega, ⟨by rw [hlen]; exact hown7, fun u hu => ?_, fun u hu => ?_, ?_, by rw [hlen]; omega, Nat.le_trans V6.out.bb K67.size⟩, (KrH.out.trans ((Kr5.out.trans K56H.out).weak (fun _ _ e => e.elim))).trans K67b⟩
            · rcases List.mem_append.1 hu with h1 | h1
              · exact V5.out.ok u h1
              · simp only [List.mem_singleton] at h1; rw [h1]; exact sv5.out.2.1
            · rcases List.mem_append.1 hu with h1 | h1
              · exact sg7 u (V6.out.sig u h1)
              · simp only [List.mem_singleton] at h1; rw [h1]; exact sg7 v (sv5.out.1.keep K56H.out (fun _ _ _ e => e.elim))
            · rw [List.pairwise_append]
              refine ⟨V5.out.dis, by simp, fun a ha b hb => ?_⟩
              simp only [List.mem_singleton] at hb
              rw [hb]
              obtain ⟨q, hq, rfl⟩ := List.getElem_of_mem ha
              have := cmpH.out q (by have := lH.out; omega)
              simpa [nth, List.getD_eq_getElem?_getD, hq] using this
    · have hi' : ¬ (i : Int) < (len0 : Int) := by omega
      go_wp2
      have hll := lH.out
      subst hll
      exact hK1.out _ _ (t4 POST base wr us av cv bs zs zt zx zy zg a1 len1 cap1 VH.out hl1 (fun w' k => rwH.out w' (KrH.out.trans k)) (fun w' k => bxH.out w' (KrH.out.trans k)) (fun w' k => spH.out w' (KrH.out.trans k)) (ppH.out.next KrH.out))

end Go.Proofs.Ybulkdink
