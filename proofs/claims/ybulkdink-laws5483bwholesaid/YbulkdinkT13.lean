import Derived.Test.YbulkdinkT18
namespace Go.Proofs.Ybulkdink
open Go.ChangeShapes Go.WideShapes Go.ChangeAt Go.RowKit
set_option linter.unusedVariables false
set_option linter.unusedSimpArgs false

/-- a copy of a list of votes -/
theorem wpList_copy {ops : Array Oper} {rest : List Oper} {o : Oper} {a : Act} {Q : Exit → Act → World → Prop} (w : World) (x : Operand) (base : Nat) (xs : List V) (y : Value) (hown : w.ownsRow base 29 6 y xs.length (cellsOf xs)) (hs : ∀ u ∈ xs, SgF u) (hl : xs.length ≤ 1000000)
    (hgd : o.guard = none) (ho : o.op = Op.call { callee := Callee.builtin Builtin.append, args := #[.const (.slice none 0 0), x], argTypes := #[27, 27] }) (hx : a.eval x = y)
    (hK : ∀ z w', w'.ownsRow w.heap.size 29 6 z xs.length (cellsOf xs) → Keep (fun _ => False) w w' → wpList Yba.prog ops Q rest (a.put o.dst z) w') : wpList Yba.prog ops Q (o :: rest) a w := by
  obtain ⟨inf, hi, hz0, hz1, hz2⟩ := info_parts inf29
  have one : ∀ u ∈ cellsOf xs, u.oneCell' = true := fun u hu => by
    obtain ⟨v, hv, hu⟩ := List.mem_flatMap.1 hu
    obtain ⟨A, L, Cc, e⟩ := hs v hv
    exact list_one v (by rw [e]; rfl) u hu
  rcases hown.2 with ⟨e, h0⟩ | ⟨g, cap, cur, e, _⟩
  · have hn : xs = [] := List.eq_nil_of_length_eq_zero h0
    subst hn
    refine wpList_append_own_none (P := Yba.prog) hgd _ _ 27 ho w.heap.size 29 inf 6 und27 hi (.slice none 0 0) 0 [] rfl (World.ownsRow_nil _ _ _ _) (by rw [hx, e]) (hK _ w ?_ (Keep.refl _ _))
    exact World.ownsRow_nil _ _ _ _
  · subst e
    refine wpList_append_own w hgd _ _ 27 ho w.heap.size 29 inf _ 6 88 und27 hi hz0 hz1 hz2 rfl (by omega) (.slice none 0 0) 0 [] rfl (World.ownsRow_nil _ _ _ _) ⟨g, 0, none⟩ xs.length cap (cellsOf xs) hx (cellsOf_length xs) (hown.cells (g := g) rfl) one (by simp only [maxLen]; omega) (by omega) (Nat.le_refl _) ?_
    intro z w' h1 h2 _
    rw [Nat.zero_add, List.nil_append] at h1
    exact hK z w' h1 ((Keep.refl _ w).grown h2 (by simp [Value.ownBlock]))

/-- behind the last hold -/
structure PI (base : Nat) (w : World) (h : Nat) (vv pv ov : Value) (vs : List V) (n gq : Nat) (Gq Cq G C : Nat → Nat) (R : Nat → List V) (B : Nat) (v : V) (bo : Nat) (t0 t1 : Int) (got : Bool) : Prop where
  res : Res base w.heap.size w h vv pv vs n R G C v t0 t1 got
  oown : w.ownsRow 0 29 6 ov vs.length (cellsOf vs)
  oruns : Runs 0 w (.slice (some ⟨gq, 0, none⟩) n n) n Gq Cq R
  box : Boxed w B v
  bl : B < w.heap.size
  good : Good w vs n R
  vok : v.Ok
  vsig : SigIn w v
  otop : w.heap[bo]? = some (.cells #[.int .u64 t0, .int .u64 t1] 35 (0, 0))
  bb : base ≤ w.heap.size

theorem tlay (w : World) (a b : Int) : ∃ W, w.alloc (Obj.cells #[.int .u64 a, .int .u64 b] 35) = W ∧ Ext w W ∧ W.heap[w.heap.size]? = some (.cells #[.int .u64 a, .int .u64 b] 35 (0, 0)) ∧ W.heap.size = w.heap.size + 1 :=
  ⟨_, rfl, (Ext.refl w).alloc _, Deep.blk_alloc_new _ _, by simp⟩

set_option maxRecDepth 100000 in
set_option maxHeartbeats 8000000 in
theorem t13 {u0 u1 u2 u3 u4 u5 u6 u7 u8 u9 u10 u11 u12 u13 u15 u16 u17 u23 u24 u25 u26 u27 u28 u29 u30 u31 u32 u33 u34 u35 u36 u37 u38 u39 u40 u41 u42 u43 u44 u45 u46 u47 u48 u49 u50 u51 u52 u53 u54 u55 u56 u57 u58 u59 u60 u61 u62 u63 u64 u65 u66 u67 u68 u69 u70 u71 u72 u73 u74 u75 u76 u77 u78 u79 u80 u81 u82 u83 u84 u85 u86 u87 u88 u89 u90 u91 u92 u93 u94 u95 u96 u97 u98 u99 u100 u101 u102 u103 u104 u105 u106 u107 u108 u109 u110 u111 u112 u113 u114 u115 u116 u117 u118 u119 u120 u121 u122 u123 u124 u125 u126 u127 u128 u129 u130 u131 u132 u133 u134 u135 u136 u137 u138 u139 u140 u141 u142 u143 u144 u145 u146 u147 u148 u149 u150 u151 u152 u153 u154 u155 u156 u157 u158 u159 u160 u161 u162 u163 u164 u165 u166 u167 u168 u169 u170 u171 u172 u173 u174 u175 u176 u177 u178 u179 u180 u181 u182 u183 u184 u185 u186 u187 u188 u189 u190 u191 u192 u193 u194 u195 u196 u197 u198 u199 u200 u201 u202 u203 u204 u205 u206 u207 u208 u209 u210 u211 u212 u213 u214 u215 u216 u217 u218 u219 u220 u221 u222 u223 u224 u225 u226 u227 u228 u229 u230 u231 u232 u233 u234 u235 u236 u237 u238 u239 u240 u241 u242 u243 u244 u245 u246 u247 u248 u249 u250 u251 u252 u253 u254 u255 u256 u257 u258 u259 u260 u261 u262 u263 u264 u265 u266 u267 u268 u269 u270 u271 u272 u273 u274 u275 u276 u277 u278 u279 u280 u281 u282 u283 u284 u285 u286 u287 u288 u289 u290 u291 u292 u293 u294 u295 u296 u297 u298 u299 u300 u301 u302 u303 u304 u305 u306 u307 u308 u309 u310 u311 u312 u313 u314 u315 u316 u317 u318 u319 u320 u321 u322 u323 u324 u325 u326 u327 u328 u329 u330 u331 u332 u333 u334 u335 u336 u337 u338 u339 u340 u341 u342 u343 u344 u345 u346 u347 u348 u349 u350 u351 u352 u353 u354 u355 u356 u357 u358 u359 u360 u361 u362 u363 u364 u365 u366 u367 u368 u369 u370 u371 u372 u373 u374 u375 u376 u377 u378 u379 u380 u381 u382 u383 u384 u385 u386 u387 u388 u389 u390 u391 u392 u393 u394 u395 u396 u397 u398 u399 u400 u401 u402 u403 u404 u405 u406 u407 u408 u409 u410 u411 u412 u413 u414 u415 u416 : Value} (POST : Ending → World → Prop) (base : Nat) (w : World) (h : Nat) (vv pv : Value) (vs : List V) (n gq : Nat) (Gq Cq G C : Nat → Nat) (R : Nat → List V) (B : Nat) (v : V) (bo cv : Nat) (av : Option Addr) (t0 t1 : Int) (got : Bool)
    (S : PI base w h vv pv (.slice av vs.length cv) vs n gq Gq Cq G C R B v bo t0 t1 got) (pp : PP base POST w) :
    Code.wp Yba.prog (dropS 13 (Yba.f3.body.getD .skip)) (bodyPost Yba.prog Yba.f3 POST) { tmps := #[u0, u1, u2, u3, u4, u5, u6, u7, u8, u9, u10, u11, u12, u13, (.pointer (some ⟨h, 0, none⟩)), u15, u16, u17, (.slice av vs.length cv), (.slice (some ⟨gq, 0, none⟩) n n), (.pointer (some ⟨bo, 0, none⟩)), (.pointer (some ⟨B, 0, none⟩)), (.bool got), u23, u24, u25, u26, u27, u28, u29, u30, u31, u32, u33, u34, u35, u36, u37, u38, u39, u40, u41, u42, u43, u44, u45, u46, u47, u48, u49, u50, u51, u52, u53, u54, u55, u56, u57, u58, u59, u60, u61, u62, u63, u64, u65, u66, u67, u68, u69, u70, u71, u72, u73, u74, u75, u76, u77, u78, u79, u80, u81, u82, u83, u84, u85, u86, u87, u88, u89, u90, u91, u92, u93, u94, u95, u96, u97, u98, u99, u100, u101, u102, u103, u104, u105, u106, u107, u108, u109, u110, u111, u112, u113, u114, u115, u116, u117, u118, u119, u120, u121, u122, u123, u124, u125, u126, u127, u128, u129, u130, u131, u132, u133, u134, u135, u136, u137, u138, u139, u140, u141, u142, u143, u144, u145, u146, u147, u148, u149, u150, u151, u152, u153, u154, u155, u156, u157, u158, u159, u160, u161, u162, u163, u164, u165, u166, u167, u168, u169, u170, u171, u172, u173, u174, u175, u176, u177, u178, u179, u180, u181, u182, u183, u184, u185, u186, u187, u188, u189, u190, u191, u192, u193, u194, u195, u196, u197, u198, u199, u200, u201, u202, u203, u204, u205, u206, u207, u208, u209, u210, u211, u212, u213, u214, u215, u216, u217, u218, u219, u220, u221, u222, u223, u224, u225, u226, u227, u228, u229, u230, u231, u232, u233, u234, u235, u236, u237, u238, u239, u240, u241, u242, u243, u244, u245, u246, u247, u248, u249, u250, u251, u252, u253, u254, u255, u256, u257, u258, u259, u260, u261, u262, u263, u264, u265, u266, u267, u268, u269, u270, u271, u272, u273, u274, u275, u276, u277, u278, u279, u280, u281, u282, u283, u284, u285, u286, u287, u288, u289, u290, u291, u292, u293, u294, u295, u296, u297, u298, u299, u300, u301, u302, u303, u304, u305, u306, u307, u308, u309, u310, u311, u312, u313, u314, u315, u316, u317, u318, u319, u320, u321, u322, u323, u324, u325, u326, u327, u328, u329, u330, u331, u332, u333, u334, u335, u336, u337, u338, u339, u340, u341, u342, u343, u344, u345, u346, u347, u348, u349, u350, u351, u352, u353, u354, u355, u356, u357, u358, u359, u360, u361, u362, u363, u364, u365, u366, u367, u368, u369, u370, u371, u372, u373, u374, u375, u376, u377, u378, u379, u380, u381, u382, u383, u384, u385, u386, u387, u388, u389, u390, u391, u392, u393, u394, u395, u396, u397, u398, u399, u400, u401, u402, u403, u404, u405, u406, u407, u408, u409, u410, u411, u412, u413, u414, u415, u416], defers := [] } w := by
  have SH : Hid (PI base w h vv pv (.slice av vs.length cv) vs n gq Gq Cq G C R B v bo t0 t1 got) := S
  have ppH : Hid (PP base POST w) := pp
  clear S pp
  have hnb : n ≤ 100000 := Nat.le_trans (cat_len_ge SH.out.good.rne) SH.out.good.rlen
  have sgv : Hid (∀ u ∈ vs, SgF u) := fun u hu => (SH.out.good.vsig u hu).sgF
  have lv : Hid (vs.length ≤ 1000000) := by have := SH.out.good.vlen; show vs.length ≤ 1000000; omega
  obtain ⟨Q, hQ⟩ : ∃ Q, bodyPost Yba.prog Yba.f3 POST = Q := ⟨_, rfl⟩
  rw [hQ]
  simp only [Yba.f3, Option.getD_some, dropS]
  subst hQ
  refine seq_hid fun K1 hK1 => ?_
  go_wp2_with (at_builtin; refine wpList_copy w (.tmp 125) 0 vs (.slice av vs.length cv) SH.out.oown sgv.out lv.out rfl rfl rfl ?_; intro xv w1 hown1 hK1')
  refine hK1.out _ _ ?_
  clear hK1 K1
  refine seq_hid fun K2 hK2 => ?_
  have src : Src 0 w1 (.slice (some ⟨gq, 0, none⟩) n n) n Gq Cq R :=
    ⟨SH.out.oruns.keep hK1' (fun _ _ e => e) (fun _ _ e => e), fun i hi u hu => (SH.out.good.rsig i hi u hu).sgF, SH.out.good.rne, fun i hi => by have := cat_len_at (R := R) hi; have := SH.out.good.rlen; omega, by omega⟩
  have F := runs_any 0 (.slice (some ⟨gq, 0, none⟩) n n) n Gq Cq R w1 src
  have o1 : Hid (w1.ownsRow w.heap.size 29 6 xv vs.length (cellsOf vs) ∧ Keep (fun _ => False) w w1) := ⟨hown1, hK1'⟩
  clear hown1 hK1' src
  go_wp2_with (go_at_call 8; refine F.mono ?_; rintro e w2 ⟨gx, Gx, Cx, rfl, hR2, hK2'⟩)
  refine hK2.out _ _ ?_
  clear hK2 K2 F
  refine seq_hid fun K3 hK3 => ?_
  have K02 : Keep (fun _ => False) w w2 := o1.out.2.trans hK2'
  have ot2 : w2.heap[bo]? = some (.cells #[.int .u64 t0, .int .u64 t1] 35 (0, 0)) := (K02.block bo (Array.getElem?_eq_some_iff.1 SH.out.otop).1 id).trans SH.out.otop
  have p0 : w2.cell? ⟨bo, 0, none⟩ = some (.int .u64 t0) := (cell_cells ot2 _).trans rfl
  have p1 : w2.cell? ⟨bo, 1, none⟩ = some (.int .u64 t1) := (cell_cells ot2 _).trans rfl
  obtain ⟨W3, hW3, hE3, hB3, hs3⟩ := tlay w2 t0 t1
  have r2 : Hid (Runs w1.heap.size w2 (.slice (some ⟨gx, 0, none⟩) n n) n Gx Cx R ∧ Keep (fun _ => False) w1 w2 ∧ Keep (fun _ => False) w w2) := ⟨hR2, hK2', K02⟩
  have e3 : Hid (Ext w2 W3 ∧ W3.heap[w2.heap.size]? = some (.cells #[.int .u64 t0, .int .u64 t1] 35 (0, 0)) ∧ W3.heap.size = w2.heap.size + 1) := ⟨hE3, hB3, hs3⟩
  clear hR2 hK2' K02 ot2 hE3 hB3 hs3
  go_wp2
  refine hK3.out _ _ ?_
  clear hK3 K3
  refine seq_hid fun K4 hK4 => ?_
  go_wp2
  refine hK4.out _ _ ?_
  clear hK4 K4
  refine seq_hid fun K5 hK5 => ?_
  go_wp2
  refine hK5.out _ _ ?_
  clear hK5 K5
  obtain ⟨a1, a2, a3⟩ := r2.out
  obtain ⟨b1, b2, b3⟩ := e3.out
  obtain ⟨c1, c2⟩ := o1.out
  have K03 : Keep (fun _ => False) w W3 := a3.trans (b1.keep _)
  have K23 : Keep (fun _ => False) w2 W3 := b1.keep _
  have K13 : Keep (fun _ => False) w1 W3 := a2.trans K23
  have xl : w.heap.size ≤ w1.heap.size := c2.size
  have xr : Runs w.heap.size W3 (.slice (some ⟨gx, 0, none⟩) n n) n Gx Cx R := by
    have r := a1.keep K23 (fun _ _ e => e) (fun _ _ e => e)
    refine ⟨⟨r.own.1, ?_⟩, r.rows, fun i hi => Nat.le_trans xl (r.gb i hi), r.inj⟩
    rcases r.own.2 with h1 | ⟨g, cap, cur, h1, h2, h3⟩
    · exact .inl h1
    · exact .inr ⟨g, cap, cur, h1, Nat.le_trans xl h2, h3⟩
  refine t18 POST base w.heap.size W3 h vv pv xv vs n gq gx Gq Cq Gx Cx G C R B v bo w2.heap.size cv av t0 t1 got ⟨SH.out.res.keep K03 (fun _ e => e.elim), owns_of_block c1 fun i hi => K13.block i (c1.lt i hi).2 id, xr, ?_, SH.out.oruns.keep K03 (fun _ _ e => e) (fun _ _ e => e), SH.out.box.keep SH.out.bl K03 id, SH.out.bl, SH.out.good.world (fun u hu => hu.keep K03 (fun _ _ _ e => e.elim)), SH.out.vok, SH.out.vsig.keep K03 (fun _ _ _ e => e.elim), (K03.block bo (Array.getElem?_eq_some_iff.1 SH.out.otop).1 id).trans SH.out.otop, b2, a3.size, (SH.out.oruns.own.lt gq rfl).2, fun i hi => (SH.out.oruns.rows i hi).lt, (Array.getElem?_eq_some_iff.1 SH.out.otop).1, SH.out.bb, K03.size⟩ (ppH.out.next (K03.weak (fun _ _ e => e.elim)))
  intro i hi e
  have h1 := (c1.lt _ e).2
  have h2 := a1.gb i hi
  omega

end Go.Proofs.Ybulkdink
