import Derived.Test.YbulkdinkRuns
import Derived.Laws.AppendOwnNone
namespace Go.Proofs.Ybulkdink
open Go.ChangeShapes Go.WideShapes Go.ChangeAt Go.RowKit
set_option linter.unusedVariables false
set_option linter.unusedSimpArgs false

/-- the other arm of the statement at a sequence's head -/
def pickE : Code → Code
  | .seq (.seq _ (.cond _ _ e)) _ => e
  | c => c

/-- what may follow in every world that keeps what was there when the law began -/
def PP (base : Nat) (POST : Ending → World → Prop) (w : World) : Prop := ∀ w', Keep (fun k => base ≤ k) w w' → POST (.returned (.bool true)) w'
theorem PP.next {base : Nat} {POST : Ending → World → Prop} {w w2 : World} (h : PP base POST w) (k : Keep (fun k => base ≤ k) w w2) : PP base POST w2 := fun w' k' => h w' (k.trans k')

/-- where no copy was found: the new history, and what is left of the old one -/
structure EI (base : Nat) (w : World) (h : Nat) (vv pv xv : Value) (vs : List V) (n gq : Nat) (Gq Cq : Nat → Nat) (R : Nat → List V) (B : Nat) (v : V) (G C : Nat → Nat) (T : List V) (m : Nat) (t0 t1 : Int) : Prop where
  hist : Hist base w h vv pv vs (m + 1) G C (upd R m T) t0 t1
  xown : w.ownsRow 0 29 6 xv vs.length (cellsOf vs)
  runs : Runs 0 w (.slice (some ⟨gq, 0, none⟩) n n) n Gq Cq R
  box : Boxed w B v
  bl : B < w.heap.size
  good : Good w vs n R
  vok : v.Ok
  vsig : SigIn w v
  noc : ∀ i, i < n → ∀ u ∈ R i, cmpV u v ≠ 0
  mn : m ≤ n
  srt : Srt T
  perm : T.Perm (v :: cat R m n)
  st : m + 1 = stop (len R) (n0 n R v) (l0 n R v)
  bb : base ≤ w.heap.size

theorem Runs.keep {lo : Nat} {w w' : World} {pv : Value} {n : Nat} {G C : Nat → Nat} {R : Nat → List V} {X : Nat → Prop} (H : Runs lo w pv n G C R) (k : Keep X w w') (h1 : ∀ i, pv.ownBlock = some i → ¬ X i) (h2 : ∀ i, i < n → ¬ X (G i)) : Runs lo w' pv n G C R :=
  ⟨owns_of_block H.own fun i hi => k.block i (H.own.lt i hi).2 (h1 i hi), fun i hi => (H.rows i hi).keep k (h2 i hi), H.gb, H.inj⟩

theorem EI.keep {base : Nat} {w w' : World} {h : Nat} {vv pv xv : Value} {vs : List V} {n gq : Nat} {Gq Cq : Nat → Nat} {R : Nat → List V} {B : Nat} {v : V} {G C : Nat → Nat} {T : List V} {m : Nat} {t0 t1 : Int}
    (E : EI base w h vv pv xv vs n gq Gq Cq R B v G C T m t0 t1) (k : Keep (fun _ => False) w w') : EI base w' h vv pv xv vs n gq Gq Cq R B v G C T m t0 t1 :=
  ⟨E.hist.keep k (fun _ _ e => e), owns_of_block E.xown fun i hi => k.block i (E.xown.lt i hi).2 id, E.runs.keep k (fun _ _ e => e) (fun _ _ e => e), E.box.keep E.bl k id, Nat.lt_of_lt_of_le E.bl k.size,
    E.good.world fun u hu => hu.keep k (fun _ _ _ e => e.elim), E.vok, E.vsig.keep k (fun _ _ _ e => e.elim), E.noc, E.mn, E.srt, E.perm, E.st, Nat.le_trans E.bb k.size⟩

/-- two strictly sorted lists of the same votes are one -/
theorem srt_unique : ∀ (xs ys : List V), Srt xs → Srt ys → xs.Perm ys → xs = ys
  | [], ys, _, _, h => (List.nil_perm.1 h).symm
  | x :: xs, [], _, _, h => by simp at h
  | x :: xs, y :: ys, hx, hy, h => by
    have hxy : x = y := by
      by_cases e : x = y
      · exact e
      · have h1 : x ∈ ys := by
          have := h.mem_iff.1 (List.mem_cons_self)
          rcases List.mem_cons.1 this with e' | e'
          · exact absurd e' e
          · exact e'
        have h2 : y ∈ xs := by
          have := h.mem_iff.2 (List.mem_cons_self)
          rcases List.mem_cons.1 this with e' | e'
          · exact absurd e'.symm e
          · exact e'
        have h3 := (List.pairwise_cons.1 hx).1 y h2
        have h4 := (List.pairwise_cons.1 hy).1 x h1
        have := (cmpV_swap x y).2 h4
        omega
    subst hxy
    rw [srt_unique xs ys (List.pairwise_cons.1 hx).2 (List.pairwise_cons.1 hy).2 (List.perm_cons _ |>.1 h)]

/-- sorted up to equals, and no equals -/
theorem srt_of_but {ys : List V} (hb : But ys ys.length ys.length) (hd : ys.Pairwise fun a b => cmpV a b ≠ 0) : Srt ys := by
  unfold Srt
  rw [List.pairwise_iff_getElem] at hd ⊢
  intro i j hi hj hij
  have h1 := hb i j hij hj (by omega)
  have h2 := hd i j hi hj hij
  have e1 : nth ys i = ys[i] := by simp [nth, List.getD_eq_getElem?_getD, hi]
  have e2 : nth ys j = ys[j] := by simp [nth, List.getD_eq_getElem?_getD, hj]
  rw [e1, e2] at h1
  omega

theorem cmpV_ne_symm {a b : V} (h : cmpV a b ≠ 0) : cmpV b a ≠ 0 := fun e => h (by rw [cmpV_zero] at e ⊢; omega)

theorem dist_perm {xs ys : List V} (h : xs.Perm ys) (hd : xs.Pairwise fun a b => cmpV a b ≠ 0) : ys.Pairwise fun a b => cmpV a b ≠ 0 := h.pairwise hd (fun h => cmpV_ne_symm h)

theorem srt_dist {xs : List V} (h : Srt xs) : xs.Pairwise fun a b => cmpV a b ≠ 0 := by
  unfold Srt at h
  rw [List.pairwise_iff_getElem] at h ⊢
  intro i j hi hj hij
  have := h i j hi hj hij
  omega

/-- the tail as it grows -/
structure TI (w wr : World) (val : Value) (xs : List V) : Prop where
  own : wr.ownsRow w.heap.size 29 6 val xs.length (cellsOf xs)
  keep : Keep (fun _ => False) w wr

set_option maxRecDepth 100000 in
set_option maxHeartbeats 8000000 in
theorem eC {u0 u1 u2 u3 u4 u5 u6 u7 u8 u9 u10 u11 u12 u13 u15 u16 u17 u18 u20 u24 u27 u28 u29 u30 u33 u34 u35 u36 u37 u38 u39 u40 u41 u42 u43 u44 u45 u46 u47 u48 u49 u50 u51 u52 u53 u54 u55 u56 u57 u58 u59 u60 u61 u62 u63 u64 u65 u66 u67 u68 u69 u70 u71 u72 u73 u74 u75 u76 u77 u78 u79 u80 u81 u82 u83 u84 u85 u86 u87 u88 u89 u90 u91 u92 u93 u94 u95 u96 u97 u98 u99 u100 u101 u102 u103 u104 u105 u106 u107 u108 u109 u110 u111 u112 u113 u114 u115 u116 u117 u118 u119 u120 u121 u122 u123 u124 u125 u126 u127 u128 u129 u130 u131 u132 u133 u134 u135 u136 u137 u138 u139 u140 u141 u142 u143 u144 u145 u146 u147 u148 u149 u150 u151 u152 u153 u154 u155 u156 u157 u158 u159 u160 u161 u162 u163 u164 u165 u166 u167 u168 u169 u170 u171 u172 u173 u174 u175 u176 u177 u178 u179 u180 u181 u182 u183 u184 u185 u186 u187 u188 u189 u190 u191 u192 u193 u194 u195 u196 u197 u198 u199 u200 u201 u202 u203 u204 u205 u206 u207 u208 u209 u210 u211 u212 u213 u214 u215 u216 u217 u218 u219 u220 u221 u222 u223 u224 u225 u226 u227 u228 u229 u230 u231 u232 u233 u234 u235 u236 u237 u238 u239 u240 u241 u242 u243 u244 u245 u246 u247 u248 u249 u250 u251 u252 u253 u254 u255 u256 u257 u258 u259 u260 u261 u262 u263 u264 u265 u266 u267 u268 u269 u270 u271 u272 u273 u274 u275 u276 u277 u278 u279 u280 u281 u282 u283 u284 u285 u286 u287 u288 u289 u290 u291 u292 u293 u294 u295 u296 u297 u298 u299 u300 u301 u302 u303 u304 u305 u306 u307 u308 u309 u310 u311 u312 u313 u314 u315 u316 u317 u318 u319 u320 u321 u322 u323 u324 u325 u326 u327 u328 u329 u330 u331 u332 u333 u334 u335 u336 u337 u338 u339 u340 u341 u342 u343 u344 u345 u346 u347 u348 u349 u350 u351 u352 u353 u354 u355 u356 u357 u358 u359 u360 u361 u362 u363 u364 u365 u366 u367 u368 u369 u370 u371 u372 u373 u374 u375 u376 u377 u378 u379 u380 u381 u382 u383 u384 u385 u386 u387 u388 u389 u390 u391 u392 u393 u394 u395 u396 u397 u398 u399 u400 u401 u402 u403 u404 u405 u406 u407 u408 u409 u410 u411 u412 u413 u414 u415 u416 : Value} (POST : Ending → World → Prop) (K : Act → World → Prop) (hK : Hid (∀ a w, Code.wp Yba.prog (dropS 21 (Yba.f3.body.getD .skip)) (bodyPost Yba.prog Yba.f3 POST) a w → K a w)) (base : Nat) (w : World) (h : Nat) (vv pv xv : Value) (vs : List V) (n gq : Nat) (Gq Cq : Nat → Nat) (R : Nat → List V) (B : Nat) (v : V) (G C : Nat → Nat) (T : List V) (m bt : Nat) (t0 t1 : Int)
    (E : EI base w h vv pv xv vs n gq Gq Cq R B v G C T m t0 t1) (top : w.heap[bt]? = some (.cells #[.int .u64 t0, .int .u64 t1] 35 (0, 0))) (pp : PP base POST w) :
    Code.wp Yba.prog (dropS 7 (pickE (dropS 20 (Yba.f3.body.getD .skip)))) (Exit.then K (bodyPost Yba.prog Yba.f3 POST)) { tmps := #[u0, u1, u2, u3, u4, u5, u6, u7, u8, u9, u10, u11, u12, u13, (.pointer (some ⟨h, 0, none⟩)), u15, u16, u17, u18, (.slice (some ⟨gq, 0, none⟩) n n), u20, (.pointer (some ⟨B, 0, none⟩)), (.bool true), xv, u24, (.pointer (some ⟨bt, 0, none⟩)), (.bool true), u27, u28, u29, u30, (.int .i64 n), (.int .i64 ((m + 1 : Nat) : Int)), u33, u34, u35, u36, u37, u38, u39, u40, u41, u42, u43, u44, u45, u46, u47, u48, u49, u50, u51, u52, u53, u54, u55, u56, u57, u58, u59, u60, u61, u62, u63, u64, u65, u66, u67, u68, u69, u70, u71, u72, u73, u74, u75, u76, u77, u78, u79, u80, u81, u82, u83, u84, u85, u86, u87, u88, u89, u90, u91, u92, u93, u94, u95, u96, u97, u98, u99, u100, u101, u102, u103, u104, u105, u106, u107, u108, u109, u110, u111, u112, u113, u114, u115, u116, u117, u118, u119, u120, u121, u122, u123, u124, u125, u126, u127, u128, u129, u130, u131, u132, u133, u134, u135, u136, u137, u138, u139, u140, u141, u142, u143, u144, u145, u146, u147, u148, u149, u150, u151, u152, u153, u154, u155, u156, u157, u158, u159, u160, u161, u162, u163, u164, u165, u166, u167, u168, u169, u170, u171, u172, u173, u174, u175, u176, u177, u178, u179, u180, u181, u182, u183, u184, u185, u186, u187, u188, u189, u190, u191, u192, u193, u194, u195, u196, u197, u198, u199, u200, u201, u202, u203, u204, u205, u206, u207, u208, u209, u210, u211, u212, u213, u214, u215, u216, u217, u218, u219, u220, u221, u222, u223, u224, u225, u226, u227, u228, u229, u230, u231, u232, u233, u234, u235, u236, u237, u238, u239, u240, u241, u242, u243, u244, u245, u246, u247, u248, u249, u250, u251, u252, u253, u254, u255, u256, u257, u258, u259, u260, u261, u262, u263, u264, u265, u266, u267, u268, u269, u270, u271, u272, u273, u274, u275, u276, u277, u278, u279, u280, u281, u282, u283, u284, u285, u286, u287, u288, u289, u290, u291, u292, u293, u294, u295, u296, u297, u298, u299, u300, u301, u302, u303, u304, u305, u306, u307, u308, u309, u310, u311, u312, u313, u314, u315, u316, u317, u318, u319, u320, u321, u322, u323, u324, u325, u326, u327, u328, u329, u330, u331, u332, u333, u334, u335, u336, u337, u338, u339, u340, u341, u342, u343, u344, u345, u346, u347, u348, u349, u350, u351, u352, u353, u354, u355, u356, u357, u358, u359, u360, u361, u362, u363, u364, u365, u366, u367, u368, u369, u370, u371, u372, u373, u374, u375, u376, u377, u378, u379, u380, u381, u382, u383, u384, u385, u386, u387, u388, u389, u390, u391, u392, u393, u394, u395, u396, u397, u398, u399, u400, u401, u402, u403, u404, u405, u406, u407, u408, u409, u410, u411, u412, u413, u414, u415, u416], defers := [] } w := by
  have EH : Hid (EI base w h vv pv xv vs n gq Gq Cq R B v G C T m t0 t1) := E
  have topH : Hid (w.heap[bt]? = some (.cells #[.int .u64 t0, .int .u64 t1] 35 (0, 0))) := top
  have ppH : Hid (PP base POST w) := pp
  clear E top pp
  have hnb : n ≤ 100000 := Nat.le_trans (cat_len_ge EH.out.good.rne) EH.out.good.rlen
  have hmn := EH.out.mn
  obtain ⟨A, L, Cs, hsg⟩ := EH.out.vsig.sgF
  have sgH : Hid (v.sg = .slice A L Cs) := hsg
  obtain ⟨e0, e1, e2, e3, e4, e5⟩ := EH.out.box.here
  rw [hsg] at e5
  obtain ⟨inf, hi, hz0, hz1, hz2⟩ := info_parts inf27
  have infs : Hid (Yba.prog.info? 27 = some inf ∧ inf.zero = some (.slice none 0 0) ∧ inf.size = 1 ∧ inf.bytes = 24) := ⟨hi, hz0, hz1, hz2⟩
  obtain ⟨in2, ki, kz0, kz1, kz2⟩ := info_parts inf29
  have infv : Hid (Yba.prog.info? 29 = some in2 ∧ in2.zero = some (.agg #[.string ⟨#[]⟩, .string ⟨#[]⟩, .string ⟨#[]⟩, .int .u64 0, .int .u64 0, .slice none 0 0]) ∧ in2.size = 6 ∧ in2.bytes = 88) := ⟨ki, kz0, kz1, kz2⟩
  clear hi hz0 hz1 hz2 ki kz0 kz1 kz2
  obtain ⟨W1, hW1, hE1, hB1, hk1, hs1⟩ := vlay w v
  rw [hsg] at hW1
  have K1 : Hid (Keep (fun _ => False) w W1) := hE1.keep _
  have T0H : Hid (TI w W1 (.slice (some ⟨w.heap.size, 0, none⟩) 1 1) [v]) := by
    refine ⟨?_, K1.out⟩
    refine ⟨by rw [cellsOf_length], .inr ⟨w.heap.size, 1, v.list.toArray, rfl, Nat.le_refl _, hB1, by simp, by simp only [maxLen]; omega, by simp [V.list], by simp [cellsOf, V.list]⟩⟩
  have ewm : IntKind.i64.wrap (((m + 1 : Nat) : Int) - 1) = (m : Int) := by rw [IntKind.wrap_i64] <;> omega
  obtain ⟨M, hM⟩ : ∃ M : Nat, m + 1 = M := ⟨_, rfl⟩
  have MH : Hid (m + 1 = M) := hM
  rw [hM] at ewm ⊢
  clear hsg hE1 hB1 hk1 hs1 hM
  obtain ⟨Q, hQ⟩ : ∃ Q, bodyPost Yba.prog Yba.f3 POST = Q := ⟨_, rfl⟩
  have hKH : Hid (∀ a w, Code.wp Yba.prog (dropS 21 (Yba.f3.body.getD .skip)) (bodyPost Yba.prog Yba.f3 POST) a w → K a w) := hK
  clear hK
  rw [hQ]
  simp only [Yba.f3, Option.getD_some, dropS, pickE]
  clear hQ
  go_upto_region 71 with fail
  (try rw [hW1])
  clear e0 e1 e2 e3 e4 e5
  go_loopg [34, 35] (n - m) (fun d s34 s35 wr => ∃ (i : Nat), d = n - i ∧ s35 = .int .i64 i ∧ m ≤ i ∧ i ≤ n ∧ TI w wr s34 (v :: cat R m i))
  case atStart => exact ⟨m, rfl, rfl, Nat.le_refl _, hmn, by rw [cat_nil R m m (Nat.le_refl _)]; exact T0H.out⟩
  case round =>
    obtain ⟨i, hd, rfl, hmi, hin, hT⟩ := hrel
    have TH : Hid (TI w wr u34 (v :: cat R m i)) := hT
    clear hT T0H K1 hW1
    obtain ⟨x, hx⟩ : ∃ x, (v :: cat R m i).length = x := ⟨_, rfl⟩
    have xH : Hid ((v :: cat R m i).length = x) := hx
    have hxb : x ≤ 100001 := by
      have h1 := congrArg List.length (cat_split R i n hin)
      have h2 := congrArg List.length (cat_split R m i hmi)
      rw [List.length_append] at h1 h2
      have := EH.out.good.rlen
      rw [← hx, List.length_cons]
      omega
    clear hx
    by_cases hi : i < n
    · have hi' : (i : Int) < (n : Int) := by omega
      have hgl := (EH.out.runs.own.lt gq rfl).2
      have qc0 := EH.out.runs.pcell i hi 0 []
      rw [← ext_zero] at qc0
      have qc : wr.cell? ⟨gq, i, none⟩ = some (ent Gq Cq R i) := (World.cell?_of_block (w := w) (TH.out.keep.block gq hgl id)).trans qc0
      have hO : Own wr (Gq i) (Cq i) (R i) := (EH.out.runs.rows i hi).keep TH.out.keep id
      obtain ⟨l, hl⟩ : ∃ l, (R i).length = l := ⟨_, rfl⟩
      have lH : Hid ((R i).length = l) := hl
      have hl0 : 0 < l := hl ▸ EH.out.good.rne i hi
      have hlb : l ≤ 100000 := hl ▸ Nat.le_trans (cat_len_at hi) EH.out.good.rlen
      simp only [ent, hl] at qc
      have news : Hid (∀ j u, (cellsOf (R i))[j]? = some u → wr.cell? ((⟨Gq i, 0, none⟩ : Addr).add j) = some u) := hO.owns.cells (g := Gq i) rfl
      have nl : Hid ((cellsOf (R i)).length = l * 6) := by have := cellsOf_length (R i); rw [hl] at this; exact this
      have one : Hid (∀ u ∈ cellsOf (R i), u.oneCell' = true) := fun u hu => by
        obtain ⟨y, hy, hu⟩ := List.mem_flatMap.1 hu
        exact list_one y (EH.out.good.rsig i hi y hy).one u hu
      have ownH : Hid (wr.ownsRow w.heap.size 29 6 u34 x (cellsOf (v :: cat R m i))) := by have := TH.out.own; rw [xH.out] at this; exact this
      have hlow : Hid (w.heap.size ≤ wr.heap.size) := TH.out.keep.size
      clear hO hl qc0 hgl
      go_wp2_with (at_builtin; refine wpList_append_lies wr rfl (.tmp 317) (.tmp 321) 27 rfl w.heap.size 29 in2 _ 6 88 und27 infv.out.1 infv.out.2.1 infv.out.2.2.1 infv.out.2.2.2 rfl (by omega) u34 x (cellsOf (v :: cat R m i)) rfl ownH.out ⟨Gq i, 0, none⟩ l (Cq i) (cellsOf (R i)) rfl nl.out news.out one.out hl0 (by simp only [maxLen]; omega) (by omega) hlow.out wr.heap.size rfl ?_; intro g2 cap2 w2 hown2 hgr2 hat2 hlt2)
      go_roundg (n - (i + 1))
      case measure => omega
      case rel =>
        refine ⟨i + 1, rfl, by go_num, by omega, by omega, ?_, ?_⟩
        · have e : v :: cat R m (i + 1) = (v :: cat R m i) ++ R i := by rw [cat_back R m i hmi]; rfl
          rw [e, cellsOf_append, List.length_append, xH.out, lH.out]
          exact hown2
        · exact TH.out.keep.into ((Keep.refl (fun k => u34.ownBlock = some k) wr).grown hgr2 (fun k e => e)) fun k hk e => by have := (TH.out.own.lt k e).1; omega
    · have hi' : ¬ (i : Int) < (n : Int) := by omega
      have ein : i = n := by omega
      subst ein
      obtain ⟨gt, ct, hval, hgt, hgtl⟩ := TH.out.own.form (by simp)
      rw [xH.out] at hval
      subst hval
      have ownT : Hid (Own wr gt ct (v :: cat R m i)) := by have := TH.out.own; rw [xH.out] at this; have h2 := owns_zero this; rw [← xH.out] at h2; exact (own_of_owns h2).2
      have memT : Hid (∀ u ∈ v :: cat R m i, u = v ∨ ∃ j, j < i ∧ u ∈ R j) := fun u hu => by
        rcases List.mem_cons.1 hu with e | e
        · exact .inl e
        · obtain ⟨j, _, h2, h3⟩ := cat_mem.1 e
          exact .inr ⟨j, h2, h3⟩
      have Fs := sort_any gt ct (v :: cat R m i) wr (by rw [xH.out]; omega) ownT.out (fun u hu => by
          rcases memT.out u hu with e | ⟨j, hj, hu⟩
          · rw [e]; exact EH.out.vok
          · exact EH.out.good.rok j hj u hu) (fun u hu => by
          rcases memT.out u hu with e | ⟨j, hj, hu⟩
          · rw [e]; exact EH.out.vsig.sgF
          · exact (EH.out.good.rsig j hj u hu).sgF)
      rw [xH.out] at Fs
      have FsH : Hid (_ ∧ True) := ⟨Fs, trivial⟩
      clear Fs
      have Fs := FsH.out.1
      go_upto_region 75 with (go_at_call 6; refine Fs.mono ?_; rintro e w3 ⟨rfl, ⟨ys, hO3, hP3, hB3⟩, hK3⟩)
      have hyl : ys.length = x := by rw [hP3.length_eq]; exact xH.out
      have eT : T = ys := by
        have hd : (v :: cat R m i).Pairwise fun a b => cmpV a b ≠ 0 := dist_perm EH.out.perm (srt_dist EH.out.srt)
        have hs : Srt ys := srt_of_but (by rw [hyl]; exact hB3) (dist_perm hP3.symm hd)
        exact srt_unique T ys EH.out.srt hs (EH.out.perm.trans hP3.symm)
      rw [← eT] at hO3 hyl
      have tlH : Hid (T.length = x) := hyl
      have O3H : Hid (Own w3 gt ct T) := hO3
      have K3H : Hid (Keep (fun _ => False) w w3) := TH.out.keep.into hK3 fun k hk e => by omega
      have gtH : Hid (w.heap.size ≤ gt ∧ gt < w3.heap.size) := ⟨hgt, hO3.lt⟩
      clear eT hyl hO3 hP3 hB3 hK3 FsH Fs ownT memT TH hgt hgtl
      have hMn : (M : Nat) ≤ 100001 := by have := MH.out; omega
      go_upto_region 77 with (at_make; refine wpList_make_own _ rfl _ _ 34 rfl w3.heap.size 27 inf _ 1 und34 infs.out.1 infs.out.2.1 infs.out.2.2.1 _ _ _ M rfl rfl rfl (by rw [infs.out.2.2.2]; omega) (by simp only [maxLen]; omega) (Nat.le_refl _) ?_; intro w4 hown4 hgr4)
      obtain ⟨ge, hge⟩ : ∃ g, w3.heap.size = g := ⟨_, rfl⟩
      have geH : Hid (w3.heap.size = ge) := hge
      have K4 : Hid (Keep (fun _ => False) w3 w4) := (Keep.refl _ w3).grown hgr4 (by simp)
      have O4 : Hid (w4.ownsRow w3.heap.size 27 1 (.slice (some ⟨ge, 0, none⟩) 0 M) 0 (ents Gq Cq R 0)) := by rw [← hge]; exact hown4
      rw [hge]
      clear hge hown4 hgr4
      go_loopg [36, 37] m (fun d s36 s37 wr => ∃ j : Nat, d = m - j ∧ s37 = .int .i64 j ∧ j ≤ m ∧ s36 = .slice (some ⟨ge, 0, none⟩) j M ∧ wr.ownsRow w3.heap.size 27 1 (.slice (some ⟨ge, 0, none⟩) j M) j (ents Gq Cq R j) ∧ Keep (fun _ => False) w3 wr)
      case atStart => exact ⟨0, rfl, rfl, Nat.zero_le _, rfl, O4.out, K4.out⟩
      case round =>
        obtain ⟨j, hd9, rfl, hjm, rfl, hO9, hK9⟩ := hrel
        have O9 : Hid (wr.ownsRow w3.heap.size 27 1 (.slice (some ⟨ge, 0, none⟩) j M) j (ents Gq Cq R j)) := hO9
        have K9 : Hid (Keep (fun _ => False) w3 wr) := hK9
        clear hO9 hK9 O4 K4
        by_cases hj : j < m
        · have hj' : (j : Int) < (m : Int) := by omega
          have hji : (j : Int) < (i : Int) := by omega
          have hgl := (EH.out.runs.own.lt gq rfl).2
          have Kw : Keep (fun _ => False) w wr := K3H.out.trans K9.out
          have qc0 := EH.out.runs.pcell j (by omega) 0 []
          rw [← ext_zero] at qc0
          have qc : wr.cell? ⟨gq, j, none⟩ = some (ent Gq Cq R j) := (World.cell?_of_block (w := w) (Kw.block gq hgl id)).trans qc0
          obtain ⟨l, hl⟩ : ∃ l, (R j).length = l := ⟨_, rfl⟩
          have lH : Hid ((R j).length = l) := hl
          simp only [ent, hl] at qc
          obtain ⟨W5, hW5, hE5, hB5, hk5, hs5⟩ := rlay wr (.slice (some ⟨Gq j, 0, none⟩) l (Cq j))
          have O5 : Hid (W5.ownsRow w3.heap.size 27 1 (.slice (some ⟨ge, 0, none⟩) j M) j (ents Gq Cq R j)) := owns_of_block O9.out fun k hk => hk5 k (O9.out.lt k hk).2
          have B5 : Hid (W5.heap[wr.heap.size]? = some (.cells #[.slice (some ⟨Gq j, 0, none⟩) l (Cq j)] 27 (0, 0))) := hB5
          have K5 : Hid (Keep (fun _ => False) w3 W5) := K9.out.trans (hE5.keep _)
          have hjM : j + 1 ≤ M := by have := MH.out; omega
          clear hE5 hB5 hk5 hs5 Kw qc0 hgl hl
          go_wp2_with (at_builtin; refine wpList_append_fits W5 rfl (.tmp 333) (.tmp 338) 34 rfl w3.heap.size 27 inf 1 und34 infs.out.1 infs.out.2.2.1 ge j M (ents Gq Cq R j) rfl O5.out ⟨wr.heap.size, 0, none⟩ 1 1 [.slice (some ⟨Gq j, 0, none⟩) l (Cq j)] rfl rfl (World.news_of_block B5.out) (by simp [Value.oneCell']) hjM ?_; intro w6 hown6 hgr6)
          go_roundg (m - (j + 1))
          case measure => omega
          case rel =>
            refine ⟨j + 1, rfl, by go_num, by omega, rfl, ?_, ?_⟩
            · rw [ents_succ]
              simp only [ent]
              rw [lH.out]
              exact hown6
            · exact K5.out.into ((Keep.refl (fun k => k = ge) W5).grown hgr6 (fun k e => (Option.some.inj e).symm)) fun k hk e => by have := geH.out; omega
        · have hj' : ¬ (j : Int) < (m : Int) := by omega
          have ejm : j = m := by omega
          subst ejm
          obtain ⟨W5, hW5, hE5, hB5, hk5, hs5⟩ := rlay wr (.slice (some ⟨gt, 0, none⟩) x ct)
          have O5 : Hid (W5.ownsRow w3.heap.size 27 1 (.slice (some ⟨ge, 0, none⟩) j M) j (ents Gq Cq R j)) := owns_of_block O9.out fun k hk => hk5 k (O9.out.lt k hk).2
          have B5 : Hid (W5.heap[wr.heap.size]? = some (.cells #[.slice (some ⟨gt, 0, none⟩) x ct] 27 (0, 0))) := hB5
          have K5 : Hid (Keep (fun _ => False) w3 W5) := K9.out.trans (hE5.keep _)
          have hjM : j + 1 ≤ M := by have := MH.out; omega
          clear hE5 hB5 hk5 hs5
          go_wp2_with (at_builtin; refine wpList_append_fits W5 rfl (.tmp 340) (.tmp 342) 34 rfl w3.heap.size 27 inf 1 und34 infs.out.1 infs.out.2.2.1 ge j M (ents Gq Cq R j) rfl O5.out ⟨wr.heap.size, 0, none⟩ 1 1 [.slice (some ⟨gt, 0, none⟩) x ct] rfl rfl (World.news_of_block B5.out) (by simp [Value.oneCell']) hjM ?_; intro w6 hown6 hgr6)
          have K6 : Keep (fun _ => False) w3 w6 := K5.out.into ((Keep.refl (fun k => k = ge) W5).grown hgr6 (fun k e => (Option.some.inj e).symm)) fun k hk e => by have := geH.out; omega
          have Kw : Keep (fun _ => False) w w6 := K3H.out.trans K6
          have E6 := EH.out.keep Kw
          refine hKH.out _ _ (t21 POST base w6 h vv pv xv vs (j + 1) ge M bt G C (upd Gq j gt) (upd Cq j ct) (upd R j T) t0 t1 true ⟨E6.hist, E6.xown, ⟨?_, ?_, fun _ _ => Nat.zero_le _, ?_⟩, (Kw.block bt (Array.getElem?_eq_some_iff.1 topH.out).1 id).trans topH.out, E6.good.vsig, ?_, by have := E6.good.vlen; omega, ?_, by omega, ?_⟩ ?_)
          · rw [ents_succ]
            have e : ents (upd Gq j gt) (upd Cq j ct) (upd R j T) j = ents Gq Cq R j := ents_congr fun a ha => by simp [ent, upd, show a ≠ j by omega]
            rw [e]
            have e2 : ent (upd Gq j gt) (upd Cq j ct) (upd R j T) j = .slice (some ⟨gt, 0, none⟩) x ct := by simp [ent, upd, tlH.out]
            rw [e2]
            exact owns_zero hown6
          · intro a ha
            by_cases e : a = j
            · subst e
              rw [upd_same, upd_same, upd_same]
              exact O3H.out.keep K6 id
            · rw [upd_ne _ _ _ _ e, upd_ne _ _ _ _ e, upd_ne _ _ _ _ e]
              exact E6.runs.rows a (by omega)
          · intro a b hab hb
            rw [upd_ne _ _ a _ (by omega)]
            by_cases e : b = j
            · subst e
              rw [upd_same]
              intro e2
              have h1 := (EH.out.runs.rows a (by omega)).lt
              have h2 := gtH.out.1
              omega
            · rw [upd_ne _ _ _ _ e]
              exact E6.runs.inj a b hab (by omega)
          · intro a ha u hu
            by_cases e : a = j
            · subst e
              rw [upd_same] at hu
              rcases List.mem_cons.1 (EH.out.perm.mem_iff.1 hu) with e | e
              · rw [e]; exact E6.vsig
              · obtain ⟨b, _, h2, h3⟩ := cat_mem.1 e
                exact E6.good.rsig b h2 u h3
            · rw [upd_ne _ _ _ _ e] at hu
              exact E6.good.rsig a (by omega) u hu
          · intro a ha
            by_cases e : a = j
            · subst e
              rw [upd_same, tlH.out]
              omega
            · rw [upd_ne _ _ _ _ e]
              have := cat_len_at (R := R) (i := a) (n := i) (by omega)
              have := E6.good.rlen
              omega
          · intro a ha
            by_cases e : a = j
            · subst e
              rw [upd_same, EH.out.perm.length_eq]
              simp
            · rw [upd_ne _ _ _ _ e]
              exact E6.good.rne a (by omega)
          · intro w' hE'
            exact ppH.out w' ((Kw.weak (fun _ _ e => e.elim)).trans (hE'.keep _))

end Go.Proofs.Ybulkdink
