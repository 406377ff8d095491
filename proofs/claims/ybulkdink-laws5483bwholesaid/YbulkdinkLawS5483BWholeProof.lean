/- The frame typed by hand (no shell was given): the bridge is the sized one (Derived.SizedLaws). -/
import Derived.Test.YbulkdinkRows
import Derived.WalkKit
import Derived.ProofKit
import Derived.OpenShut
import Derived.ShutString
import Derived.ChangeOld
import Derived.Below
import Derived.SizedLaws
import Derived.Deep.Slices
import Derived.Test.YbulkdinkLaw
namespace Go.Proofs.Ybulkdink.lawS5483BWhole
open Go.ChangeShapes Go.WideShapes Go.ChangeAt Go.RowKit
open Go.ChangeMaps (open_string shut_string)
set_option linter.unusedVariables false
set_option linter.unusedSimpArgs false

theorem own : ownKnob Yba.prog.godebug = none := by kernel_rfl
theorem laidOut : laidOutB Yba.prog = true := by kernel_rfl
theorem bytes26 : Yba.prog.bytesOf 26 = 48 := by kernel_rfl
theorem bytes5 : Yba.prog.bytesOf 5 = 1 := by kernel_rfl
theorem cells26 : Yba.prog.cellsOf 26 = 5 := by kernel_rfl
theorem cells23 : Yba.prog.cellsOf 23 = 1 := by kernel_rfl
theorem cells5 : Yba.prog.cellsOf 5 = 1 := by kernel_rfl
theorem cells24 : Yba.prog.cellsOf 24 = 1 := by kernel_rfl

theorem u8_range {n : Int} (h : (Lit.int .u8 n).wf = true) : 0 ≤ n ∧ n ≤ 255 := by
  simpa [Lit.wf, IntKind.min, IntKind.max, IntKind.signed, IntKind.bits] using h

section
variable {H : Type} {enc : TypeId × Value → H} {W : World}

theorem mem_weightsAll {P : Program} {e : TypeId} : ∀ {l : List (DataW H)} {d : DataW H} {n : Nat}, d ∈ l → n ∈ d.weights P e → n ∈ DataW.weightsAll P e l
  | x :: l, d, n, hd, hn => by
    rw [DataW.weightsAll]
    rcases List.mem_cons.1 hd with rfl | hd
    · exact List.mem_append_left _ hn
    · exact List.mem_append_right _ (mem_weightsAll hd hn)

/-- the plain data of one vote, opened -/
theorem spec_open {fuel : Nat} {cs : List Value} {x : DataW H × List MemPlace} (h : DataW.trod enc Yba.prog W 0 (fun _ => true) true fuel 26 cs = some x) (hw : ∀ n ∈ x.1.weights Yba.prog 26, n ≤ reachBytes) :
    ∃ s t a b p l c, cs = [.int .u64 s, .int .u64 t, .int .u8 a, .int .u8 b, .slice p l c] ∧ Spec W (.agg #[.int .u64 s, .int .u64 t, .int .u8 a, .int .u8 b, .slice p l c]) := by
  obtain ⟨xs, n, _, rfl, hl, hxl, hf⟩ := DataW.trod_struct Yba.underlying26 h
  rw [cells26] at hl
  match cs, hl, xs, hxl with
  | [v0, v1, v2, v3, v4], _, [y0, y1, y2, y3, y4], _ =>
    have g0 := hf 0 _ rfl
    have g1 := hf 1 _ rfl
    have g2 := hf 2 _ rfl
    have g3 := hf 3 _ rfl
    have g4 := hf 4 _ rfl
    simp only [cells23, cells5, cells24, List.drop_zero, List.drop_succ_cons, List.take_succ_cons, List.take_zero, List.getElem?_cons_zero, List.getElem?_cons_succ] at g0 g1 g2 g3 g4
    obtain ⟨s, e0, _, _⟩ := DataW.trod_int Yba.underlying23 g0
    obtain ⟨t, e1, _, _⟩ := DataW.trod_int Yba.underlying23 g1
    obtain ⟨a, e2, _, wa⟩ := DataW.trod_int Yba.underlying5 g2
    obtain ⟨b, e3, _, wb⟩ := DataW.trod_int Yba.underlying5 g3
    cases e0
    cases e1
    cases e2
    cases e3
    rcases open_ints Yba.underlying24 Yba.underlying5 cells5 g4 with ⟨e4, _⟩ | ⟨ad, l, c, zs, e4, _, hlc, hcm, hz, hx4, hc, hwz⟩
    · cases e4
      exact ⟨s, t, a, b, none, 0, 0, rfl, Spec.nil s t a b (u8_range wa) (u8_range wb)⟩
    · cases e4
      simp only [if_true] at hz
      have hb4 : zs.length * 1 ≤ reachBytes := by
        refine hw _ ?_
        have hl4 : (lits IntKind.u8 (zs.take l) : List (DataW H)).length + (lits IntKind.u8 (zs.drop l) : List (DataW H)).length = zs.length := by
          simp [lits]
          omega
        have : zs.length * 1 ∈ y4.1.weights Yba.prog 24 := by
          rw [hx4]
          simp only [DataW.weights, Yba.underlying24]
          rw [hl4, bytes5]
          exact List.mem_cons_self
        simp only [DataW.weights, Yba.underlying26]
        exact DataW.weights_mem_each (j := 4) (t := 24) (d := y4.1) rfl rfl _ this
      have hr := reachBytes_lt
      have hlen : (zs.take l).length = l := by rw [List.length_take]; omega
      have hsp : Spec W (.agg #[.int .u64 s, .int .u64 t, .int .u8 a, .int .u8 b, .slice (some ad) (zs.take l).length c]) := by
        refine Spec.some s t a b ad c (zs.take l) (u8_range wa) (u8_range wb) (by rw [hlen]; omega) fun i hi => ?_
        rw [hlen] at hi
        rw [hc i (by omega)]
        simp [List.getD_eq_getElem?_getD, List.getElem?_take, hi]
      rw [hlen] at hsp
      exact ⟨s, t, a, b, some ad, l, c, rfl, hsp⟩

/-- a slice of them -/
theorem row_open {fuel len cap : Nat} {a : Option Addr} {d : DataW H} {p : List MemPlace} (h : DataW.trod enc Yba.prog W 0 (fun _ => true) true fuel 22 [.slice a len cap] = some (d, p)) (hw : ∀ n ∈ d.weights Yba.prog 22, n ≤ reachBytes) :
    RawRow W a len ∧ len ≤ 140737488355328 := by
  rcases Go.Deep.open_slice Yba.underlying22 h with ⟨e, _⟩ | ⟨ad, l, c, m, n, D, Pl, e, _, hlc, hcm, hmm, hx, hel⟩
  · cases e
    exact ⟨fun i hi => by omega, by omega⟩
  · cases e
    simp only [if_true] at hmm
    subst hmm
    simp only [Prod.mk.injEq] at hx
    obtain ⟨rfl, rfl⟩ := hx
    refine ⟨fun i hi => ?_, ?_⟩
    · obtain ⟨cs, h1, h2⟩ := hel i (by omega)
      rw [cells26] at h1
      obtain ⟨_, _, hcell⟩ := World.cells?_some h1
      obtain ⟨s, t, aa, b, p, l', c', rfl, hsp⟩ := spec_open h2 (fun k hk => hw k (by
        simp only [DataW.weights, Yba.underlying22]
        refine List.mem_cons_of_mem _ (List.mem_append_left _ (mem_weightsAll (d := D i) ?_ hk))
        exact List.mem_map.2 ⟨i, by simpa using hi, rfl⟩))
      have ad' : ∀ j, 0 < j → (ad.add (i * 5)).add j = ⟨(ad.add (i * 5)).block, (ad.add (i * 5)).off + j, none⟩ := fun j hj => by
        unfold Addr.add
        rw [if_neg (by omega)]
      refine ⟨ad, rfl, s, t, aa, b, .slice p l' c', ?_, ?_, ?_, ?_, ?_, ⟨p, l', c', rfl⟩, hsp⟩
      · have := hcell 0 (by omega)
        simpa [Addr.add] using this
      · have := hcell 1 (by omega)
        rw [ad' 1 (by omega)] at this
        exact this
      · have := hcell 2 (by omega)
        rw [ad' 2 (by omega)] at this
        exact this
      · have := hcell 3 (by omega)
        rw [ad' 3 (by omega)] at this
        exact this
      · have := hcell 4 (by omega)
        rw [ad' 4 (by omega)] at this
        exact this
    · have h1 : (((List.range len).map D).length + ((List.range (m - len)).map fun j => D (len + j)).length) * Yba.prog.bytesOf 26 ≤ reachBytes := hw _ (by
        simp only [DataW.weights, Yba.underlying22]
        exact List.mem_cons_self)
      rw [bytes26] at h1
      simp only [List.length_map, List.length_range] at h1
      have hr := reachBytes_lt
      omega
end

theorem array5 {cs : Array Value} {a b c d e : Value} (h : cs.toList = [a, b, c, d, e]) : cs = #[a, b, c, d, e] := by
  cases cs
  simp_all

set_option maxRecDepth 100000 in
theorem lifted (os : Os) (started : os.Started) (H : Type) (enc : TypeId × Value → H) :
    ReturnsInHanded {} Yba.checked os 3 .any (Rows.lawS5483BWholeSpec.pre6 enc Yba.prog Yba.f3 Rows.lawS5483BWholeRow.domain false) (Rows.lawS5483BWholeSpec.post enc Yba.prog Yba.f3 false true false false) := by
  refine returnsInHanded_of_change_sized (C := Yba.checked) own started (by kernel_rfl) Yba.func3
    (ChangeSpec.witness6 (enc := enc) (C := Yba.checked) false ⟨#[], #[.slice none 0 0, .slice none 0 0, .agg #[.int .u64 0, .int .u64 0, .int .u8 0, .int .u8 0, .slice none 0 0]], []⟩ 8 (by kernel_rfl) (by kernel_rfl) (by kernel_rfl) (by kernel_rfl)) ?_
  intro W base args ds gs before hval0 hW hcnd hsz0 _
  have hsz : (DataW.weightsEach Yba.prog (Yba.f3.params.toList ++ Rows.lawS5483BWholeSpec.plain.varTypes Yba.prog) (ds ++ gs)).all (· ≤ reachBytes) = true := hsz0
  clear hsz0
  have hval : ∀ (j : Nat) t v, Yba.f3.params[j]? = some t → args[j]? = some v → Value.okWide Yba.prog W .any base t v := hval0
  have hW' := hW
  obtain ⟨p, q, hA0, hV, rfl, hfz, hnd⟩ := hW
  have hA : DataW.TrodAll enc Yba.prog W 0 (fun _ => true) true Yba.f3.params.toList args.toList ds p := hA0
  rw [Yba.params3] at hA hval hsz
  obtain ⟨v0, vs0, d0, ds0, p0, q0, hargs, rfl, rfl, h0, r0⟩ := trodAll_cons hA
  obtain ⟨v1, vs1, d1, ds1, p1, q1, rfl, rfl, rfl, h1, r1⟩ := trodAll_cons r0
  obtain ⟨v2, vs2, d2, ds2, p2, q2, rfl, rfl, rfl, h2, r2⟩ := trodAll_cons r1
  obtain ⟨rfl, rfl, rfl⟩ := trodAll_nil r2
  obtain rfl : args = #[v0, v1, v2] := by cases args; simp_all
  obtain ⟨rfl, rfl⟩ := trodVars_none hV
  have sz : ∀ (j : Nat) (t : TypeId) (d : DataW H), ([22, 22, 26] : List TypeId)[j]? = some t → ([d0, d1, d2] : List (DataW H))[j]? = some d → ∀ n ∈ d.weights Yba.prog t, n ≤ reachBytes := fun j t d ht hd n hn => by
    have := List.all_eq_true.1 hsz n (DataW.weights_mem_each (j := j) (t := t) (d := d) (by
      have hj : j < 3 := (List.getElem?_eq_some_iff.1 ht).1
      rw [List.getElem?_append_left (by exact hj)]
      exact ht) (by
      have hj : j < 3 := (List.getElem?_eq_some_iff.1 hd).1
      rw [List.getElem?_append_left (by exact hj)]
      exact hd) n hn)
    simpa using this
  obtain ⟨a0, len0, cap0, rfl⟩ := okWide_slice Yba.underlying22 (hval 0 22 v0 rfl rfl)
  have k0 := h0
  have lt0 : ∀ x ∈ p0, x.block < W.heap.size := by obtain ⟨m, hm⟩ := k0; exact DataW.trod_lt m _ _ _ hm
  obtain ⟨w0, m0⟩ : RawRow W a0 len0 ∧ len0 ≤ 140737488355328 := by
    obtain ⟨fuel, hf⟩ := h0
    exact row_open hf (sz 0 22 d0 rfl rfl)
  obtain ⟨a1, len1, cap1, rfl⟩ := okWide_slice Yba.underlying22 (hval 1 22 v1 rfl rfl)
  have k1 := h1
  have lt1 : ∀ x ∈ p1, x.block < W.heap.size := by obtain ⟨m, hm⟩ := k1; exact DataW.trod_lt m _ _ _ hm
  obtain ⟨w1, m1⟩ : RawRow W a1 len1 ∧ len1 ≤ 140737488355328 := by
    obtain ⟨fuel, hf⟩ := h1
    exact row_open hf (sz 1 22 d1 rfl rfl)
  obtain ⟨cs, rfl, hcs⟩ := okWide_struct Yba.underlying26 (hval 2 26 v2 rfl rfl)
  have k2 := h2
  have lt2 : ∀ x ∈ p2, x.block < W.heap.size := by obtain ⟨m, hm⟩ := k2; exact DataW.trod_lt m _ _ _ hm
  obtain ⟨s, t, a, b, pp, l, c, ecs, hsp⟩ : ∃ s t a b p l c, cs = #[.int .u64 s, .int .u64 t, .int .u8 a, .int .u8 b, .slice p l c] ∧ Spec W (.agg #[.int .u64 s, .int .u64 t, .int .u8 a, .int .u8 b, .slice p l c]) := by
    obtain ⟨fuel, hf⟩ := h2
    obtain ⟨s, t, a, b, p, l, c, e, hsp⟩ := spec_open hf (sz 2 26 d2 rfl rfl)
    exact ⟨s, t, a, b, p, l, c, array5 (by simpa [Value.cells] using e), hsp⟩
  subst ecs
  clear hA0 hval0
  refine (law_main a0 a1 len0 cap0 len1 cap1 s t a b pp l c W w0 w1 hsp m0 m1).mono fun e W' ⟨he, bel⟩ => ?_
  subst he
  exact ⟨_, rfl, _, _, _, [], _, [], hW', trodAll_mk1 (shut_bool Yba.underlying4 _), (trodAll_cons_mk (Below.trod laidOut (by kernel_rfl) (of_decide_eq_true (by kernel_rfl)) k0 bel lt0) (trodAll_cons_mk (Below.trod laidOut (by kernel_rfl) (of_decide_eq_true (by kernel_rfl)) k1 bel lt1) (trodAll_cons_mk (Below.trod laidOut (by kernel_rfl) (of_decide_eq_true (by kernel_rfl)) k2 bel lt2) trodAll_mk0))), rfl, bel.frame _, fun h => by cases h⟩

theorem over : Rows.lawS5483BWholeRow.holds Yba.pinned (OpenSpec.ofChange Rows.lawS5483BWholeSpec) :=
  OpenClaim.holds_of_wide 3 Yba.f3 rfl rfl rfl rfl rfl rfl rfl ⟨rfl, rfl, rfl, rfl, rfl⟩ rfl rfl rfl rfl rfl (by kernel_rfl) Yba.func3 (by kernel_rfl)
    (of_decide_eq_true (by kernel_rfl)) (by unfold Func.isWrapper; first | (rw [if_pos (by decide +kernel)]; kernel_rfl) | (rw [if_neg (by decide +kernel)]; exact ⟨rfl, rfl⟩))
    (fun os started H enc _ => lifted os started H enc)

/-- THE STATEMENT -/
theorem proved : Rows.LawS5483BWholeSaid := over
#print axioms proved
end Go.Proofs.Ybulkdink.lawS5483BWhole
