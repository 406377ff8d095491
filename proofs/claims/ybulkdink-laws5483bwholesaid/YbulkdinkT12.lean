import Derived.Test.YbulkdinkT13
namespace Go.Proofs.Ybulkdink
open Go.ChangeShapes Go.WideShapes Go.ChangeAt Go.RowKit
set_option linter.unusedVariables false
set_option linter.unusedSimpArgs false

def under (t0 t1 : Int) (u : V) : Prop := u.s < t0 ∨ (u.s = t0 ∧ u.t ≤ t1)
/-- top is no less than the heights of any vote held -/
def TopI (vs : List V) (n : Nat) (R : Nat → List V) (t0 t1 : Int) : Prop := (∀ u ∈ vs, under t0 t1 u) ∧ ∀ i, i < n → ∀ u ∈ R i, under t0 t1 u

theorem cmpV_hi {u v : V} {t0 t1 : Int} (h : under t0 t1 u) (hv : t0 < v.s ∨ (v.s = t0 ∧ t1 < v.t)) : cmpV u v ≠ 0 := by
  rw [Ne, cmpV_zero]
  unfold under at h
  omega

theorem above_none {vs : List V} {n : Nat} {R : Nat → List V} {t0 t1 : Int} {v : V} (h : TopI vs n R t0 t1) (ha : abv vs.length n t0 t1 v = true) : NoCopy vs n R v := by
  simp only [abv, Bool.or_eq_true, Bool.and_eq_true, decide_eq_true_eq] at ha
  refine ⟨has_false.2 fun u hu => ?_, fun j hj => has_false.2 fun u hu => ?_⟩
  · have : 0 < vs.length := List.length_pos_of_mem hu
    exact cmpV_hi (h.1 u hu) (by omega)
  · exact cmpV_hi (h.2 j hj u hu) (by omega)

/-- ahead of a hold: the law's own copies lie from lo on -/
structure QI (base lo : Nat) (w : World) (h : Nat) (vv pv ov : Value) (vs : List V) (n gq : Nat) (Gq Cq G C : Nat → Nat) (R : Nat → List V) (B : Nat) (v : V) (bo : Nat) (t0 t1 : Int) : Prop where
  hist : Hist base w h vv pv vs n G C R t0 t1
  ft : ∀ k, foot h vv pv n G k → k < lo
  good : Good w vs n R
  topi : TopI vs n R t0 t1
  oown : w.ownsRow lo 29 6 ov vs.length (cellsOf vs)
  oruns : Runs lo w (.slice (some ⟨gq, 0, none⟩) n n) n Gq Cq R
  box : Boxed w B v
  bl : B < w.heap.size
  blo : lo ≤ B
  vok : v.Ok
  vsig : SigIn w v
  otop : w.heap[bo]? = some (.cells #[.int .u64 t0, .int .u64 t1] 35 (0, 0))
  bolo : lo ≤ bo
  bb : base ≤ w.heap.size

set_option maxRecDepth 100000 in
set_option maxHeartbeats 8000000 in
theorem t12 {u0 u1 u2 u3 u4 u5 u6 u7 u8 u9 u10 u11 u12 u13 u15 u16 u17 u22 u23 u24 u25 u26 u27 u28 u29 u30 u31 u32 u33 u34 u35 u36 u37 u38 u39 u40 u41 u42 u43 u44 u45 u46 u47 u48 u49 u50 u51 u52 u53 u54 u55 u56 u57 u58 u59 u60 u61 u62 u63 u64 u65 u66 u67 u68 u69 u70 u71 u72 u73 u74 u75 u76 u77 u78 u79 u80 u81 u82 u83 u84 u85 u86 u87 u88 u89 u90 u91 u92 u93 u94 u95 u96 u97 u98 u99 u100 u101 u102 u103 u104 u105 u106 u107 u108 u109 u110 u111 u112 u113 u114 u115 u116 u117 u118 u119 u120 u121 u122 u123 u124 u125 u126 u127 u128 u129 u130 u131 u132 u133 u134 u135 u136 u137 u138 u139 u140 u141 u142 u143 u144 u145 u146 u147 u148 u149 u150 u151 u152 u153 u154 u155 u156 u157 u158 u159 u160 u161 u162 u163 u164 u165 u166 u167 u168 u169 u170 u171 u172 u173 u174 u175 u176 u177 u178 u179 u180 u181 u182 u183 u184 u185 u186 u187 u188 u189 u190 u191 u192 u193 u194 u195 u196 u197 u198 u199 u200 u201 u202 u203 u204 u205 u206 u207 u208 u209 u210 u211 u212 u213 u214 u215 u216 u217 u218 u219 u220 u221 u222 u223 u224 u225 u226 u227 u228 u229 u230 u231 u232 u233 u234 u235 u236 u237 u238 u239 u240 u241 u242 u243 u244 u245 u246 u247 u248 u249 u250 u251 u252 u253 u254 u255 u256 u257 u258 u259 u260 u261 u262 u263 u264 u265 u266 u267 u268 u269 u270 u271 u272 u273 u274 u275 u276 u277 u278 u279 u280 u281 u282 u283 u284 u285 u286 u287 u288 u289 u290 u291 u292 u293 u294 u295 u296 u297 u298 u299 u300 u301 u302 u303 u304 u305 u306 u307 u308 u309 u310 u311 u312 u313 u314 u315 u316 u317 u318 u319 u320 u321 u322 u323 u324 u325 u326 u327 u328 u329 u330 u331 u332 u333 u334 u335 u336 u337 u338 u339 u340 u341 u342 u343 u344 u345 u346 u347 u348 u349 u350 u351 u352 u353 u354 u355 u356 u357 u358 u359 u360 u361 u362 u363 u364 u365 u366 u367 u368 u369 u370 u371 u372 u373 u374 u375 u376 u377 u378 u379 u380 u381 u382 u383 u384 u385 u386 u387 u388 u389 u390 u391 u392 u393 u394 u395 u396 u397 u398 u399 u400 u401 u402 u403 u404 u405 u406 u407 u408 u409 u410 u411 u412 u413 u414 u415 u416 : Value} (POST : Ending → World → Prop) (base lo : Nat) (w : World) (h : Nat) (vv pv : Value) (vs : List V) (n gq : Nat) (Gq Cq G C : Nat → Nat) (R : Nat → List V) (B : Nat) (v : V) (bo cv : Nat) (av : Option Addr) (t0 t1 : Int)
    (S : QI base lo w h vv pv (.slice av vs.length cv) vs n gq Gq Cq G C R B v bo t0 t1) (pp : PP base POST w) :
    Code.wp Yba.prog (dropS 12 (Yba.f3.body.getD .skip)) (bodyPost Yba.prog Yba.f3 POST) { tmps := #[u0, u1, u2, u3, u4, u5, u6, u7, u8, u9, u10, u11, u12, u13, (.pointer (some ⟨h, 0, none⟩)), u15, u16, u17, (.slice av vs.length cv), (.slice (some ⟨gq, 0, none⟩) n n), (.pointer (some ⟨bo, 0, none⟩)), (.pointer (some ⟨B, 0, none⟩)), u22, u23, u24, u25, u26, u27, u28, u29, u30, u31, u32, u33, u34, u35, u36, u37, u38, u39, u40, u41, u42, u43, u44, u45, u46, u47, u48, u49, u50, u51, u52, u53, u54, u55, u56, u57, u58, u59, u60, u61, u62, u63, u64, u65, u66, u67, u68, u69, u70, u71, u72, u73, u74, u75, u76, u77, u78, u79, u80, u81, u82, u83, u84, u85, u86, u87, u88, u89, u90, u91, u92, u93, u94, u95, u96, u97, u98, u99, u100, u101, u102, u103, u104, u105, u106, u107, u108, u109, u110, u111, u112, u113, u114, u115, u116, u117, u118, u119, u120, u121, u122, u123, u124, u125, u126, u127, u128, u129, u130, u131, u132, u133, u134, u135, u136, u137, u138, u139, u140, u141, u142, u143, u144, u145, u146, u147, u148, u149, u150, u151, u152, u153, u154, u155, u156, u157, u158, u159, u160, u161, u162, u163, u164, u165, u166, u167, u168, u169, u170, u171, u172, u173, u174, u175, u176, u177, u178, u179, u180, u181, u182, u183, u184, u185, u186, u187, u188, u189, u190, u191, u192, u193, u194, u195, u196, u197, u198, u199, u200, u201, u202, u203, u204, u205, u206, u207, u208, u209, u210, u211, u212, u213, u214, u215, u216, u217, u218, u219, u220, u221, u222, u223, u224, u225, u226, u227, u228, u229, u230, u231, u232, u233, u234, u235, u236, u237, u238, u239, u240, u241, u242, u243, u244, u245, u246, u247, u248, u249, u250, u251, u252, u253, u254, u255, u256, u257, u258, u259, u260, u261, u262, u263, u264, u265, u266, u267, u268, u269, u270, u271, u272, u273, u274, u275, u276, u277, u278, u279, u280, u281, u282, u283, u284, u285, u286, u287, u288, u289, u290, u291, u292, u293, u294, u295, u296, u297, u298, u299, u300, u301, u302, u303, u304, u305, u306, u307, u308, u309, u310, u311, u312, u313, u314, u315, u316, u317, u318, u319, u320, u321, u322, u323, u324, u325, u326, u327, u328, u329, u330, u331, u332, u333, u334, u335, u336, u337, u338, u339, u340, u341, u342, u343, u344, u345, u346, u347, u348, u349, u350, u351, u352, u353, u354, u355, u356, u357, u358, u359, u360, u361, u362, u363, u364, u365, u366, u367, u368, u369, u370, u371, u372, u373, u374, u375, u376, u377, u378, u379, u380, u381, u382, u383, u384, u385, u386, u387, u388, u389, u390, u391, u392, u393, u394, u395, u396, u397, u398, u399, u400, u401, u402, u403, u404, u405, u406, u407, u408, u409, u410, u411, u412, u413, u414, u415, u416], defers := [] } w := by
  have SH : Hid (QI base lo w h vv pv (.slice av vs.length cv) vs n gq Gq Cq G C R B v bo t0 t1) := S
  have ppH : Hid (PP base POST w) := pp
  clear S pp
  obtain ⟨d0, d1, d2, d3, d4, d5⟩ := SH.out.box.here
  have F := hold_any base w h vv pv vs n G C R t0 t1 v SH.out.hist SH.out.good SH.out.vok SH.out.vsig SH.out.bb (fun hA i hi => has_false.1 ((above_none SH.out.topi hA).2 i hi))
  have fin : Hid (∀ e w', HoldPost base w h vv pv vs n G C R t0 t1 v e w' → ∃ (got : Bool) (pv' : Value) (G' C' : Nat → Nat), e = .returned (.bool got) ∧ PI base w' h vv pv' (.slice av vs.length cv) vs n gq Gq Cq G' C' R B v bo t0 t1 got ∧ PP base POST w') := fun e w' hp => by
    obtain ⟨hK, hw⟩ := hp
    have nf : ∀ k, lo ≤ k → ¬ foot h vv pv n G k := fun k hk hf => by have := SH.out.ft k hf; omega
    have hsig : ∀ u, SigIn w u → SigIn w' u := fun u hu => hu.keep hK SH.out.hist.notSig
    have mk : ∀ (got : Bool) (pv' : Value) (G' C' : Nat → Nat), Res base w'.heap.size w' h vv pv' vs n R G' C' v t0 t1 got → PI base w' h vv pv' (.slice av vs.length cv) vs n gq Gq Cq G' C' R B v bo t0 t1 got ∧ PP base POST w' := fun got pv' G' C' hr => by
      refine ⟨⟨hr, owns_zero (owns_of_block SH.out.oown fun i hi => hK.block i (SH.out.oown.lt i hi).2 (nf i (SH.out.oown.lt i hi).1)), ?_, SH.out.box.keep SH.out.bl hK (nf _ SH.out.blo), Nat.lt_of_lt_of_le SH.out.bl hK.size, SH.out.good.world hsig, SH.out.vok, hsig v SH.out.vsig, (hK.block bo (Array.getElem?_eq_some_iff.1 SH.out.otop).1 (nf _ SH.out.bolo)).trans SH.out.otop, Nat.le_trans SH.out.bb hK.size⟩, ppH.out.next (hK.weak fun k _ hf => SH.out.hist.ge k hf)⟩
      have r := SH.out.oruns.keep hK (fun i hi => nf i (SH.out.oruns.own.lt i hi).1) (fun i hi => nf _ (SH.out.oruns.gb i hi))
      exact ⟨owns_zero r.own, r.rows, fun _ _ => Nat.zero_le _, r.inj⟩
    rcases hw with ⟨a, b, c, hH⟩ | ⟨a, b, c, i, hi, hri, hrj, hH⟩ | ⟨a, c, pv', m, G', C', T, hH, hmn, hS, hP, hst⟩
    · obtain ⟨x, y⟩ := mk false pv G C ⟨.inl ⟨b, rfl, hH, fun k hk => hH.lt k hk⟩⟩
      exact ⟨false, pv, G, C, c, x, y⟩
    · obtain ⟨x, y⟩ := mk false pv G C ⟨.inr (.inl ⟨b, rfl, i, hi, hri, hrj, hH, fun k hk => hH.lt k hk⟩)⟩
      exact ⟨false, pv, G, C, c, x, y⟩
    · have hN : NoCopy vs n R v := by
        cases hA : abv vs.length n t0 t1 v with
        | true => exact above_none SH.out.topi hA
        | false => exact a hA
      obtain ⟨x, y⟩ := mk true pv' G' C' ⟨.inr (.inr ⟨hN, rfl, m, T, hH, hmn, hS, hP, hst, fun k hk => hH.lt k hk⟩)⟩
      exact ⟨true, pv', G', C', c, x, y⟩
  obtain ⟨Q, hQ⟩ : ∃ Q, bodyPost Yba.prog Yba.f3 POST = Q := ⟨_, rfl⟩
  rw [hQ]
  simp only [Yba.f3, Option.getD_some, dropS]
  subst hQ
  refine seq_hid fun K1 hK1 => ?_
  go_wp2_with (go_at_call 7; refine F.mono ?_; intro e w2 hp2; obtain ⟨got, pv', G', C', rfl, hPI, hPP⟩ := fin.out e w2 hp2)
  exact hK1.out _ _ (t13 POST base w2 h vv pv' vs n gq Gq Cq G' C' R B v bo cv av t0 t1 got hPI hPP)

/-- the cells of a vote's plain data -/
structure SpecBox (w : World) (b : Nat) (s t x y : Int) (sg : Value) : Prop where
  c0 : w.cell? ⟨b, 0, none⟩ = some (.int .u64 s)
  c1 : w.cell? ⟨b, 1, none⟩ = some (.int .u64 t)
  c2 : w.cell? ⟨b, 2, none⟩ = some (.int .u8 x)
  c3 : w.cell? ⟨b, 3, none⟩ = some (.int .u8 y)
  c4 : w.cell? ⟨b, 4, none⟩ = some sg

/-- the law's history at rest -/
structure HI (base : Nat) (w : World) (h : Nat) (vv pv : Value) (vs : List V) (n : Nat) (G C : Nat → Nat) (R : Nat → List V) (t0 t1 : Int) : Prop where
  hist : Hist base w h vv pv vs n G C R t0 t1
  good : Good w vs n R
  topi : TopI vs n R t0 t1
  bb : base ≤ w.heap.size

theorem HI.keep {base : Nat} {w w' : World} {h : Nat} {vv pv : Value} {vs : List V} {n : Nat} {G C : Nat → Nat} {R : Nat → List V} {t0 t1 : Int} (H : HI base w h vv pv vs n G C R t0 t1) (k : Keep (fun _ => False) w w') : HI base w' h vv pv vs n G C R t0 t1 :=
  ⟨H.hist.keep k (fun _ _ e => e), H.good.world (fun u hu => hu.keep k (fun _ _ _ e => e.elim)), H.topi, Nat.le_trans H.bb k.size⟩

theorem Spec.keep {base : Nat} {w w' : World} {z : Value} (h : Spec w z) (hb : w.heap.size = base) (k : Keep (fun k => base ≤ k) w w') : Spec w' z := by
  rcases h with ⟨s, t, x, y, hx, hy, rfl⟩ | ⟨s, t, x, y, ad, c, zs, hx, hy, hn, hc, rfl⟩
  · exact Spec.nil s t x y hx hy
  · refine Spec.some s t x y ad c zs hx hy hn fun i hi => ?_
    have h1 := hc i hi
    have h2 : (ad.add i).block < w.heap.size := World.block_lt_of_cell? w _ h1
    exact (World.cell?_of_block (w := w) (k.block _ h2 (by omega))).trans h1

end Go.Proofs.Ybulkdink
