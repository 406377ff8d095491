import Derived.Test.YbulkdinkT7
namespace Go.Proofs.Ybulkdink
open Go.ChangeShapes Go.WideShapes Go.ChangeAt Go.RowKit
set_option linter.unusedVariables false
set_option linter.unusedSimpArgs false

theorem sort_votes {base : Nat} {w : World} {vv : Value} {us : List V} (ho : w.ownsRow base 29 6 vv us.length (cellsOf us)) (hl : us.length ≤ 1000000) (hok : ∀ u ∈ us, u.Ok) (hs : ∀ u ∈ us, SgF u) (hd : us.Pairwise fun a b => cmpV a b ≠ 0) :
    Calls Yba.prog 6 #[vv] w fun e w' => e = .returned (.tuple #[]) ∧ (∃ ys, Srt ys ∧ ys.Perm us ∧ w'.ownsRow base 29 6 vv us.length (cellsOf ys)) ∧ Keep (fun k => vv.ownBlock = some k) w w' := by
  by_cases h0 : us.length = 0
  · have hn : us = [] := List.eq_nil_of_length_eq_zero h0
    subst hn
    obtain ⟨a, c, rfl⟩ := owns_form ho
    refine (sort_none a c w).mono fun e w' ⟨he, hw⟩ => ⟨he, ⟨[], List.Pairwise.nil, List.Perm.refl _, by rw [hw]; exact ho⟩, by rw [hw]; exact Keep.refl _ _⟩
  · obtain ⟨g, c, rfl, hgb, _⟩ := ho.form (by omega)
    have hO := (own_of_owns (owns_zero ho)).2
    refine (sort_any g c us w hl hO hok hs).mono fun e w' ⟨he, ⟨ys, h1, h2, h3⟩, hk⟩ => ⟨he, ⟨ys, ?_, h2, ?_⟩, hk.weak fun k _ e => by rw [e]; rfl⟩
    · exact srt_of_but (by rw [h2.length_eq]; exact h3) (dist_perm h2.symm hd)
    · have := owns_based h1 hgb
      rw [h2.length_eq] at this
      exact this

/-- the judged votes as they are gathered, and what came in -/
structure VI (base : Nat) (w : World) (vv : Value) (us : List V) : Prop where
  own : w.ownsRow base 29 6 vv us.length (cellsOf us)
  ok : ∀ u ∈ us, u.Ok
  sig : ∀ u ∈ us, SigIn w u
  dis : us.Pairwise fun a b => cmpV a b ≠ 0
  len : us.length ≤ 1000
  bb : base ≤ w.heap.size

theorem hlay (w : World) (vv : Value) : ∃ W, w.alloc (Obj.cells #[.string ⟨#[120]⟩, vv, .slice none 0 0, .int .u64 0, .int .u64 0, .int .u64 0, .int .u64 0, .bool false] 37) = W ∧ Ext w W ∧ HCells W w.heap.size vv (.slice none 0 0) 0 0 ∧ W.heap.size = w.heap.size + 1 :=
  ⟨_, rfl, (Ext.refl w).alloc _, Deep.blk_alloc_new _ _, by simp⟩

set_option maxRecDepth 100000 in
set_option maxHeartbeats 8000000 in
theorem t4 {u0 u2 u3 u4 u6 u8 u9 u10 u11 u12 u13 u14 u15 u16 u17 u18 u19 u20 u21 u22 u23 u24 u25 u26 u27 u28 u29 u30 u31 u32 u33 u34 u35 u36 u37 u38 u39 u40 u41 u42 u43 u44 u45 u46 u47 u48 u49 u50 u51 u52 u53 u54 u55 u56 u57 u58 u59 u60 u61 u62 u63 u64 u65 u66 u67 u68 u69 u70 u71 u72 u73 u74 u75 u76 u77 u78 u79 u80 u81 u82 u83 u84 u85 u86 u87 u88 u89 u90 u91 u92 u93 u94 u95 u96 u97 u98 u99 u100 u101 u102 u103 u104 u105 u106 u107 u108 u109 u110 u111 u112 u113 u114 u115 u116 u117 u118 u119 u120 u121 u122 u123 u124 u125 u126 u127 u128 u129 u130 u131 u132 u133 u134 u135 u136 u137 u138 u139 u140 u141 u142 u143 u144 u145 u146 u147 u148 u149 u150 u151 u152 u153 u154 u155 u156 u157 u158 u159 u160 u161 u162 u163 u164 u165 u166 u167 u168 u169 u170 u171 u172 u173 u174 u175 u176 u177 u178 u179 u180 u181 u182 u183 u184 u185 u186 u187 u188 u189 u190 u191 u192 u193 u194 u195 u196 u197 u198 u199 u200 u201 u202 u203 u204 u205 u206 u207 u208 u209 u210 u211 u212 u213 u214 u215 u216 u217 u218 u219 u220 u221 u222 u223 u224 u225 u226 u227 u228 u229 u230 u231 u232 u233 u234 u235 u236 u237 u238 u239 u240 u241 u242 u243 u244 u245 u246 u247 u248 u249 u250 u251 u252 u253 u254 u255 u256 u257 u258 u259 u260 u261 u262 u263 u264 u265 u266 u267 u268 u269 u270 u271 u272 u273 u274 u275 u276 u277 u278 u279 u280 u281 u282 u283 u284 u285 u286 u287 u288 u289 u290 u291 u292 u293 u294 u295 u296 u297 u298 u299 u300 u301 u302 u303 u304 u305 u306 u307 u308 u309 u310 u311 u312 u313 u314 u315 u316 u317 u318 u319 u320 u321 u322 u323 u324 u325 u326 u327 u328 u329 u330 u331 u332 u333 u334 u335 u336 u337 u338 u339 u340 u341 u342 u343 u344 u345 u346 u347 u348 u349 u350 u351 u352 u353 u354 u355 u356 u357 u358 u359 u360 u361 u362 u363 u364 u365 u366 u367 u368 u369 u370 u371 u372 u373 u374 u375 u376 u377 u378 u379 u380 u381 u382 u383 u384 u385 u386 u387 u388 u389 u390 u391 u392 u393 u394 u395 u396 u397 u398 u399 u400 u401 u402 u403 u404 u405 u406 u407 u408 u409 u410 u411 u412 u413 u414 u415 u416 : Value} (POST : Ending → World → Prop) (base : Nat) (w : World) (us : List V) (av : Option Addr) (cv : Nat) (bs : Nat) (zs zt zx zy : Int) (zg : Value) (a1 : Option Addr) (len1 cap1 : Nat)
    (H : VI base w (.slice av us.length cv) us) (hl1 : len1 ≤ 1000) (rw1 : ∀ w', Keep (fun k => base ≤ k) w w' → SpecRow base w' a1 len1) (bx : ∀ w', Keep (fun k => base ≤ k) w w' → SpecBox w' bs zs zt zx zy zg) (sp : ∀ w', Keep (fun k => base ≤ k) w w' → Spec w' (.agg #[.int .u64 zs, .int .u64 zt, .int .u8 zx, .int .u8 zy, zg])) (pp : PP base POST w) :
    Code.wp Yba.prog (dropS 4 (Yba.f3.body.getD .skip)) (bodyPost Yba.prog Yba.f3 POST) { tmps := #[u0, (.slice a1 len1 cap1), u2, u3, u4, (.pointer (some ⟨bs, 0, none⟩)), u6, (.slice av us.length cv), u8, u9, u10, u11, u12, u13, u14, u15, u16, u17, u18, u19, u20, u21, u22, u23, u24, u25, u26, u27, u28, u29, u30, u31, u32, u33, u34, u35, u36, u37, u38, u39, u40, u41, u42, u43, u44, u45, u46, u47, u48, u49, u50, u51, u52, u53, u54, u55, u56, u57, u58, u59, u60, u61, u62, u63, u64, u65, u66, u67, u68, u69, u70, u71, u72, u73, u74, u75, u76, u77, u78, u79, u80, u81, u82, u83, u84, u85, u86, u87, u88, u89, u90, u91, u92, u93, u94, u95, u96, u97, u98, u99, u100, u101, u102, u103, u104, u105, u106, u107, u108, u109, u110, u111, u112, u113, u114, u115, u116, u117, u118, u119, u120, u121, u122, u123, u124, u125, u126, u127, u128, u129, u130, u131, u132, u133, u134, u135, u136, u137, u138, u139, u140, u141, u142, u143, u144, u145, u146, u147, u148, u149, u150, u151, u152, u153, u154, u155, u156, u157, u158, u159, u160, u161, u162, u163, u164, u165, u166, u167, u168, u169, u170, u171, u172, u173, u174, u175, u176, u177, u178, u179, u180, u181, u182, u183, u184, u185, u186, u187, u188, u189, u190, u191, u192, u193, u194, u195, u196, u197, u198, u199, u200, u201, u202, u203, u204, u205, u206, u207, u208, u209, u210, u211, u212, u213, u214, u215, u216, u217, u218, u219, u220, u221, u222, u223, u224, u225, u226, u227, u228, u229, u230, u231, u232, u233, u234, u235, u236, u237, u238, u239, u240, u241, u242, u243, u244, u245, u246, u247, u248, u249, u250, u251, u252, u253, u254, u255, u256, u257, u258, u259, u260, u261, u262, u263, u264, u265, u266, u267, u268, u269, u270, u271, u272, u273, u274, u275, u276, u277, u278, u279, u280, u281, u282, u283, u284, u285, u286, u287, u288, u289, u290, u291, u292, u293, u294, u295, u296, u297, u298, u299, u300, u301, u302, u303, u304, u305, u306, u307, u308, u309, u310, u311, u312, u313, u314, u315, u316, u317, u318, u319, u320, u321, u322, u323, u324, u325, u326, u327, u328, u329, u330, u331, u332, u333, u334, u335, u336, u337, u338, u339, u340, u341, u342, u343, u344, u345, u346, u347, u348, u349, u350, u351, u352, u353, u354, u355, u356, u357, u358, u359, u360, u361, u362, u363, u364, u365, u366, u367, u368, u369, u370, u371, u372, u373, u374, u375, u376, u377, u378, u379, u380, u381, u382, u383, u384, u385, u386, u387, u388, u389, u390, u391, u392, u393, u394, u395, u396, u397, u398, u399, u400, u401, u402, u403, u404, u405, u406, u407, u408, u409, u410, u411, u412, u413, u414, u415, u416], defers := [] } w := by
  have HH : Hid (VI base w (.slice av us.length cv) us) := H
  have rwH : Hid (∀ w', Keep (fun k => base ≤ k) w w' → SpecRow base w' a1 len1) := rw1
  have bxH : Hid (∀ w', Keep (fun k => base ≤ k) w w' → SpecBox w' bs zs zt zx zy zg) := bx
  have spH : Hid (∀ w', Keep (fun k => base ≤ k) w w' → Spec w' (.agg #[.int .u64 zs, .int .u64 zt, .int .u8 zx, .int .u8 zy, zg])) := sp
  have ppH : Hid (PP base POST w) := pp
  clear H bx sp pp rw1
  have Fs := sort_votes HH.out.own (by have := HH.out.len; omega) HH.out.ok (fun u hu => (HH.out.sig u hu).sgF) HH.out.dis
  obtain ⟨l, hl⟩ : ∃ l, us.length = l := ⟨_, rfl⟩
  have lH : Hid (us.length = l) := hl
  have hlb : l ≤ 1000 := hl ▸ HH.out.len
  rw [hl] at Fs ⊢
  clear hl
  obtain ⟨Q, hQ⟩ : ∃ Q, bodyPost Yba.prog Yba.f3 POST = Q := ⟨_, rfl⟩
  rw [hQ]
  simp only [Yba.f3, Option.getD_some, dropS]
  subst hQ
  refine seq_hid fun K1 hK1 => ?_
  go_wp2_with (go_at_call 6; refine Fs.mono ?_; rintro e w1 ⟨rfl, ⟨ys, hsrt, hperm, hown⟩, hk1⟩)
  refine hK1.out _ _ ?_
  clear hK1 K1 Fs
  refine seq_hid fun K2 hK2 => ?_
  obtain ⟨W2, hW2, hE2, hC2, hs2⟩ := hlay w1 (.slice av l cv)
  have sigK : ∀ u, SigIn w u → SigIn w1 u := fun u hu => hu.keep hk1 fun i c fz e he => by
    have ho := HH.out.own
    rw [lH.out] at ho
    obtain ⟨c', hb⟩ := owns_type ho e; rw [hb] at he; simp at he
  have yl : ys.length = l := by rw [hperm.length_eq]; exact lH.out
  have K01 : Keep (fun k => base ≤ k) w w1 := hk1.weak fun k _ e => by
    have ho := HH.out.own
    rw [lH.out] at ho
    exact (ho.lt k e).1
  have K12 : Keep (fun _ => False) w1 W2 := hE2.keep _
  have K02 : Hid (Keep (fun k => base ≤ k) w W2) := K01.trans (K12.weak (fun _ _ e => e.elim))
  have hist : Hid (Hist base W2 w1.heap.size (.slice av l cv) (.slice none 0 0) ys 0 (fun _ => 0) (fun _ => 0) (fun _ => []) 0 0) := by
    refine ⟨Nat.le_trans HH.out.bb hk1.size, hC2, ?_, World.ownsRow_nil _ _ _ _, by intro i hi; omega, by intro i hi; omega, by intro i j h1 h2; omega, by intro i hi; omega⟩
    rw [yl]
    exact owns_of_block hown fun k hk => K12.block k (hown.lt k hk).2 id
  have good : Hid (Good W2 ys 0 (fun _ => [])) := by
    refine ⟨hsrt, fun u hu => HH.out.ok u (hperm.mem_iff.1 hu), fun u hu => (sigK u (HH.out.sig u (hperm.mem_iff.1 hu))).extE hE2, by rw [yl]; exact hlb, by intro i hi; omega, by intro i hi; omega, by intro i hi; omega, by intro i hi; omega, by intro i j h1 h2; omega, by simp [cat]⟩
  have ylH : Hid (ys.length = l ∧ Srt ys) := ⟨yl, hsrt⟩
  have bbH : Hid (base ≤ W2.heap.size) := Nat.le_trans HH.out.bb K02.out.size
  clear hE2 hC2 hs2 sigK yl K01 K12 hown hk1 hsrt hperm
  go_wp2
  refine hK2.out _ _ ?_
  clear hK2 K2
  (try rw [hW2])
  refine seq_hid fun K3 hK3 => ?_
  by_cases h0 : l = 0
  · subst h0
    go_wp2
    have hy : ys = [] := List.eq_nil_of_length_eq_zero ylH.out.1
    refine hK3.out _ _ (t7 POST base W2 w1.heap.size (.slice av 0 cv) (.slice none 0 0) ys 0 (fun _ => 0) (fun _ => 0) (fun _ => []) 0 0 bs zs zt zx zy zg a1 len1 cap1 ⟨hist.out, good.out, ⟨by rw [hy]; simp, by intro i hi; omega⟩, bbH.out⟩ (by simp [cat]) hl1 (rwH.out W2 K02.out) (fun w' k => bxH.out w' (K02.out.trans k)) (fun w' k => spH.out w' (K02.out.trans k)) (ppH.out.next K02.out))
  · obtain ⟨g, c, hform, hgb, _⟩ := hist.out.vown.form (by rw [ylH.out.1]; omega)
    rw [ylH.out.1] at hform
    cases hform
    obtain ⟨q, rfl⟩ : ∃ q, l = q + 1 := ⟨l - 1, by omega⟩
    have hO : Own W2 g cv ys := by
      have := hist.out.vown
      rw [← ylH.out.1] at this
      exact (own_of_owns (owns_zero this)).2
    have hrow := hO.row
    rw [ylH.out.1] at hrow
    obtain ⟨y, hy⟩ : ∃ y, nth ys q = y := ⟨_, rfl⟩
    have yH : Hid (nth ys q = y) := hy
    obtain ⟨a0, a1', a2, a3, a4, a5⟩ := (hrow.at (i := q) (by omega)).here
    rw [hy] at a1' a2 a3 a4 a5
    have ymem : y ∈ ys := hy ▸ nth_mem (by rw [ylH.out.1]; omega)
    obtain ⟨A, L, Cs, hsg⟩ := (good.out.vsig y ymem).sgF
    rw [hsg] at a5
    obtain ⟨W3, hW3, hE3, hB3, hk3, hs3⟩ := vbox W2 y
    rw [hsg] at hW3
    obtain ⟨NN, hNN⟩ : ∃ N : Nat, q + 1 = N := ⟨_, rfl⟩
    have NH : Hid (q + 1 = NN) := hNN
    have ew : IntKind.i64.wrap ((NN : Int) - 1) = (q : Int) := by rw [IntKind.wrap_i64] <;> omega
    have iw : (q : Int) < (NN : Int) := by omega
    have hpos : (0 : Int) < (NN : Int) := by omega
    have hposN : 0 < NN := by omega
    rw [hNN]
    obtain ⟨e0, e1, e2, e3, e4, e5⟩ := hB3.here
    have K23 : Keep (fun _ => False) W2 W3 := hE3.keep _
    have h3 := (hist.out.keep K23 (fun _ _ e => e)).setTop y.s y.t
    have h3H : Hid (_ ∧ _) := h3
    have hcc := (hist.out.keep K23 (fun _ _ e => e)).cells
    have f3 : W3.cell? ⟨w1.heap.size, 3, none⟩ = some (.int .u64 0) := by have := hcc.at.2.2.2.1 0 []; rwa [← ext_zero] at this
    have f4 : W3.cell? ⟨w1.heap.size, 4, none⟩ = some (.int .u64 0) := by have := hcc.at.2.2.2.2.1 0 []; rwa [← ext_zero] at this
    have fz : ∀ i, W3.frozen? ⟨w1.heap.size, i, none⟩ = false := fun i => hcc.frozen i
    have K23H : Hid (Keep (fun _ => False) W2 W3) := K23
    clear hNN hy ymem hrow hO hE3 hB3 hk3 hs3 K23 h3 hcc h0
    go_wp2
    obtain ⟨h3a, h3b⟩ := h3H.out
    have hN := NH.out
    subst hN
    have KZ : Keep (fun k => base ≤ k) W2 ((W3.setCell ⟨w1.heap.size, 3, none⟩ (.int .u64 y.s)).setCell ⟨w1.heap.size, 4, none⟩ (.int .u64 y.t)) := (K23H.out.weak (fun _ _ e => e.elim)).trans (h3b.weak fun k _ e => by have := hist.out.hb; omega)
    have K0Z := K02.out.trans KZ
    have sigZ : ∀ u, SigIn W2 u → SigIn ((W3.setCell ⟨w1.heap.size, 3, none⟩ (.int .u64 y.s)).setCell ⟨w1.heap.size, 4, none⟩ (.int .u64 y.t)) u := fun u hu => (hu.keep K23H.out (fun _ _ _ e => e.elim)).keep h3b fun i c fz e he => by
      have hcc := (hist.out.keep K23H.out (fun _ _ e => e)).cells
      unfold HCells at hcc
      rw [e, hcc] at he; simp at he
    refine hK3.out _ _ (t7 POST base _ w1.heap.size (.slice (some ⟨g, 0, none⟩) (q + 1) cv) (.slice none 0 0) ys 0 (fun _ => 0) (fun _ => 0) (fun _ => []) y.s y.t bs zs zt zx zy zg a1 len1 cap1 ⟨h3a, good.out.world sigZ, ⟨fun u hu => ?_, by intro i hi; omega⟩, Nat.le_trans bbH.out KZ.size⟩ (by simp [cat]) hl1 (rwH.out _ K0Z) (fun w' k => bxH.out w' (K0Z.trans k)) (fun w' k => spH.out w' (K0Z.trans k)) (ppH.out.next K0Z))
    obtain ⟨i, hi, rfl⟩ := List.getElem_of_mem hu
    have e : ys[i] = nth ys i := by simp [nth, List.getD_eq_getElem?_getD, hi]
    rw [e]
    by_cases eq : i = q
    · subst eq
      rw [yH.out]
      right
      exact ⟨rfl, Int.le_refl _⟩
    · have h5 := ylH.out.2.at i q (by have := ylH.out.1; omega) (by have := ylH.out.1; omega)
      rw [yH.out, cmpV_neg] at h5
      unfold under
      omega

end Go.Proofs.Ybulkdink
