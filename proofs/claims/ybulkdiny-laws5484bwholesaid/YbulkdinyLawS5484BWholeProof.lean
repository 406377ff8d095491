/- The given shell with its hole filled. The bridge is the sized one (Derived.SizedLaws): the sum of two lengths must not overflow, and only the form's own reach bounds it. -/
import Derived.Test.YbulkdinyRows
import Derived.WalkKit
import Derived.ProofKit
import Derived.OpenShut
import Derived.ShutString
import Derived.ChangeOld
import Derived.Below
import Derived.SizedLaws
import Derived.Test.YbulkdinyMain
namespace Go.Proofs.Ybulkdiny.lawS5484BWhole
open Go.ChangeShapes Go.WideShapes Go.ChangeAt Go.RowKit
open Go.ChangeMaps (open_string shut_string)
set_option linter.unusedVariables false

theorem own : ownKnob Yba.prog.godebug = none := by kernel_rfl
theorem laidOut : laidOutB Yba.prog = true := by kernel_rfl
theorem bytes25 : Yba.prog.bytesOf 25 = 4 := by kernel_rfl
theorem bytes3 : Yba.prog.bytesOf 3 = 8 := by kernel_rfl

/-- WHAT THE WALK IS TOLD OF A SLICE OF INTEGERS THAT CAME IN: it is nil; or it leads to a row of 'cap' cells, the numbers 'zs' (the first 'len' are its elements, the rest its spare room), each fitting its kind. -/
def IsRow (k : IntKind) (w : World) (a : Option Addr) (len cap : Nat) (zs : List Int) : Prop :=
  (a = none ∧ len = 0 ∧ cap = 0 ∧ zs = []) ∨
  ∃ x, a = some x ∧ len ≤ cap ∧ cap ≤ maxLen ∧ zs.length = cap ∧ (∀ i, i < zs.length → w.cell? (x.add i) = some (.int k (zs.getD i 0))) ∧ ∀ n ∈ zs, (Lit.int k n).wf = true

/-- the ints: what Clone gives, and that Equal finds the two alike later -/
theorem ints (a2 : Option Addr) (len2 cap2 : Nat) (z2 : List Int) (w : World) (hn : len2 ≤ 1048576) (w2 : IsRow .i64 w a2 len2 cap2 z2) (w' : World) (hB : Below w.heap.size w w') : IntsOk w' a2 len2 cap2 := by
  unfold IntsOk
  rcases w2 with ⟨rfl, rfl, rfl, _⟩ | ⟨ad, rfl, hl, _, hz, hc, _⟩
  · exact (clone8_nil w').mono fun e w'' ⟨he, hw⟩ => ⟨none, 0, he, rfl, by rw [hw]; exact World.grownBy.refl _ _, fun w3 _ => eqi_empty none none 0 0 w3⟩
  · by_cases h0 : len2 = 0
    · subst h0
      exact (clone8_empty ad cap2 w').mono fun e w'' ⟨⟨g, he⟩, hw⟩ => ⟨some g, 0, he, rfl, hw, fun w3 _ => eqi_empty (some g) (some ad) 0 cap2 w3⟩
    · have hcw : ∀ i, i < len2 → w'.cell? (ad.add i) = some (.int .i64 (z2.getD i 0)) := fun i hi => by
        have h1 := hc i (by omega)
        exact (hB.cell (cell_lt h1)).trans h1
      refine (clone8 ad len2 cap2 ((List.range len2).map fun i => .int .i64 (z2.getD i 0)) w' (by omega) hn (by simp) ?_ ?_).mono ?_
      · intro j u h
        by_cases hj : j < len2
        · simp [hj] at h; subst h; simpa using hcw j hj
        · simp [hj] at h
      · intro u hu
        simp at hu
        obtain ⟨i, _, rfl⟩ := hu
        rfl
      · rintro e w'' ⟨g, cap, cur, rfl, hg, hb, hs, ht, hgr⟩
        refine ⟨some ⟨g, 0, none⟩, cap, rfl, rfl, hgr, fun w3 h3 => ?_⟩
        refine eqi_any ⟨g, 0, none⟩ ad len2 cap cap2 (fun i => z2.getD i 0) w3 hn ?_ ?_
        · intro i hi
          have hlt : g < w''.heap.size := (Array.getElem?_eq_some_iff.1 hb).1
          have hb3 : w3.heap[g]? = some (.cells cur 3 (0, 0)) := (h3 g hlt).trans hb
          have := congrArg (fun l => l[i]?) ht
          simp only [List.getElem?_take, hi, if_true, List.getElem?_map, List.getElem?_range, Option.map_some] at this
          have e : cur[i]? = some (.int .i64 (z2.getD i 0)) := by simpa using this
          rw [Addr.add_lit, Nat.zero_add]
          simp [World.cell?, hb3, e]
        · intro i hi
          have h1 := hcw i hi
          have hlt := cell_lt h1
          rw [World.cell?_of_block ((h3 _ (Nat.lt_of_lt_of_le hlt hgr.size)).trans (hgr.block _ hlt (by intro h; cases h)))]
          exact h1

/-! ### STEP 1: THE WALK: the Go text returns true, AND WRITES NOTHING THAT WAS THERE: 'Below w.heap.size w w'' (Derived/Below.lean: '.refl', '.alloc', '.drew', '.setCell' at a new block, '.trans'). Open each 'IsRow' by 'rcases' AHEAD of 'go_enter'; part every test ahead of the walk. -/
theorem walk (a0 : Option Addr) (len0 cap0 : Nat) (z0 : List Int) (a1 : Int) (a2 : Option Addr) (len2 cap2 : Nat) (z2 : List Int) (w : World) (w0 : IsRow .u32 w a0 len0 cap0 z0) (w1 : (Lit.int .u8 a1).wf = true) (w2 : IsRow .i64 w a2 len2 cap2 z2) (m0 : len0 ≤ 140737488355328) (m2 : len2 ≤ 140737488355328) :
    Calls Yba.prog 3 #[.slice a0 len0 cap0, .int .u8 a1, .slice a2 len2 cap2] w fun e w' => e = .returned (.bool true) ∧ Below w.heap.size w w' := by
  by_cases hbig : 1048576 < len0 + len2
  · have hb' : (1048576 : Int) < (len0 : Int) + (len2 : Int) := by omega
    go_enter Yba.func3, Yba.ntmps3
    go_wp2
    go_ret
    exact ⟨rfl, Below.refl _ _⟩
  · by_cases h0 : len0 = 0
    · subst h0
      have hb' : decide ((1048576 : Int) < (len2 : Int)) = false := decide_eq_false (by omega)
      go_enter Yba.func3, Yba.ntmps3
      go_wp2
      go_ret
      exact ⟨rfl, Below.refl _ _⟩
    · rcases w0 with ⟨_, h, _⟩ | ⟨ad, rfl, hl0, _, hz0, hc0, hw0⟩
      · exact absurd h h0
      · refine main ad len0 cap0 (fun i => z0.getD i 0) a1 a2 len2 cap2 w (by omega) (by omega) (fun i hi => hc0 i (by omega)) ?_ ?_ (ints a2 len2 cap2 z2 w (by omega) w2)
        · intro i hi
          have hm : z0.getD i 0 ∈ z0 := by
            rw [List.getD_eq_getElem?_getD, List.getElem?_eq_getElem (by omega), Option.getD_some]
            exact List.getElem_mem _
          have := hw0 _ hm
          simpa [Lit.wf, IsU, IntKind.min, IntKind.max, IntKind.signed, IntKind.bits] using this
        · simpa [Lit.wf, IntKind.min, IntKind.max, IntKind.signed, IntKind.bits] using w1

/-! ### THE ROW's STEP: WRITTEN OUT: LEAVE IT -/
set_option maxRecDepth 100000 in
theorem lifted (os : Os) (started : os.Started) (H : Type) (enc : TypeId × Value → H) :
    ReturnsInHanded {} Yba.checked os 3 .any (Rows.lawS5484BWholeSpec.pre6 enc Yba.prog Yba.f3 Rows.lawS5484BWholeRow.domain false) (Rows.lawS5484BWholeSpec.post enc Yba.prog Yba.f3 false true false false) := by
  refine returnsInHanded_of_change_sized (C := Yba.checked) own started (by kernel_rfl) Yba.func3
    (ChangeSpec.witness6 (enc := enc) (C := Yba.checked) false ⟨#[], #[.slice none 0 0, .int .u8 0, .slice none 0 0], []⟩ 8 (by kernel_rfl) (by kernel_rfl) (by kernel_rfl) (by kernel_rfl)) ?_
  intro W base args ds gs before hval0 hW hcnd hsz0 _
  have hsz : (DataW.weightsEach Yba.prog (Yba.f3.params.toList ++ Rows.lawS5484BWholeSpec.plain.varTypes Yba.prog) (ds ++ gs)).all (· ≤ reachBytes) = true := hsz0
  clear hsz0
  have hval : ∀ (j : Nat) t v, Yba.f3.params[j]? = some t → args[j]? = some v → Value.okWide Yba.prog W .any base t v := hval0
  have hW' := hW
  obtain ⟨p, q, hA0, hV, rfl, hfz, hnd⟩ := hW
  have hA : DataW.TrodAll enc Yba.prog W 0 (fun _ => true) true Yba.f3.params.toList args.toList ds p := hA0
  rw [Yba.params3] at hA hval hsz
  obtain ⟨v0, vs0, d0, ds0, p0, q0, hargs, rfl, rfl, h0, r0⟩ := trodAll_cons hA
  obtain ⟨v1, vs1, d1, ds1, p1, q1, rfl, rfl, rfl, h1, r1⟩ := trodAll_cons r0
  obtain ⟨v2, vs2, d2, ds2, p2, q2, rfl, rfl, rfl, h2, r2⟩ := trodAll_cons r1
  obtain ⟨rfl, rfl, rfl⟩ := trodAll_nil r2
  obtain rfl : args = #[v0, v1, v2] := by cases args; simp_all
  obtain ⟨rfl, rfl⟩ := trodVars_none hV
  obtain ⟨a0, len0, cap0, rfl⟩ := okWide_slice Yba.underlying22 (hval 0 22 v0 rfl rfl)
  have k0 := h0
  have lt0 : ∀ x ∈ p0, x.block < W.heap.size := by obtain ⟨m, hm⟩ := k0; exact DataW.trod_lt m _ _ _ hm
  obtain ⟨z0, w0, m0⟩ : ∃ zs, IsRow .u32 W a0 len0 cap0 zs ∧ len0 ≤ 140737488355328 := by
    obtain ⟨fuel, hf⟩ := h0
    rcases open_ints Yba.underlying22 Yba.underlying25 (by kernel_rfl) hf with ⟨hcs, _⟩ | ⟨x, l, c, zs, hcs, _, hl, hm, hz, hdat, hcell, hwz⟩
    · simp [Value.cells] at hcs
      obtain ⟨rfl, rfl, rfl⟩ := hcs
      exact ⟨[], .inl ⟨rfl, rfl, rfl, rfl⟩, by omega⟩
    · simp [Value.cells] at hcs
      obtain ⟨rfl, rfl, rfl⟩ := hcs
      have hd : d0 = .slice (lits .u32 (zs.take len0)) (lits .u32 (zs.drop len0)) := congrArg Prod.fst hdat
      rw [hd] at hsz
      have hs := sized_slice hsz (j := 0) (t := 22) (e := 25) rfl rfl Yba.underlying22
      rw [bytes25] at hs
      have hr := reachBytes_lt
      have hlen : (lits IntKind.u32 (zs.take len0) : List (DataW H)).length + (lits IntKind.u32 (zs.drop len0) : List (DataW H)).length = zs.length := by
        simp [lits]
        omega
      rw [hlen] at hs
      have hz' : zs.length = cap0 := by simpa using hz
      exact ⟨zs, .inr ⟨_, rfl, hl, hm, hz', hcell, hwz⟩, by omega⟩
  obtain ⟨a1, rfl, rfl, rfl, w1⟩ := open_int Yba.underlying5 (hval 1 5 v1 rfl rfl) h1
  obtain ⟨a2, len2, cap2, rfl⟩ := okWide_slice Yba.underlying23 (hval 2 23 v2 rfl rfl)
  have k2 := h2
  have lt2 : ∀ x ∈ p2, x.block < W.heap.size := by obtain ⟨m, hm⟩ := k2; exact DataW.trod_lt m _ _ _ hm
  obtain ⟨z2, w2, m2⟩ : ∃ zs, IsRow .i64 W a2 len2 cap2 zs ∧ len2 ≤ 140737488355328 := by
    obtain ⟨fuel, hf⟩ := h2
    rcases open_ints Yba.underlying23 Yba.underlying3 (by kernel_rfl) hf with ⟨hcs, _⟩ | ⟨x, l, c, zs, hcs, _, hl, hm, hz, hdat, hcell, hwz⟩
    · simp [Value.cells] at hcs
      obtain ⟨rfl, rfl, rfl⟩ := hcs
      exact ⟨[], .inl ⟨rfl, rfl, rfl, rfl⟩, by omega⟩
    · simp [Value.cells] at hcs
      obtain ⟨rfl, rfl, rfl⟩ := hcs
      have hd : d2 = .slice (lits .i64 (zs.take len2)) (lits .i64 (zs.drop len2)) := congrArg Prod.fst hdat
      rw [hd] at hsz
      have hs := sized_slice hsz (j := 2) (t := 23) (e := 3) rfl rfl Yba.underlying23
      rw [bytes3] at hs
      have hr := reachBytes_lt
      have hlen : (lits IntKind.i64 (zs.take len2) : List (DataW H)).length + (lits IntKind.i64 (zs.drop len2) : List (DataW H)).length = zs.length := by
        simp [lits]
        omega
      rw [hlen] at hs
      have hz' : zs.length = cap2 := by simpa using hz
      exact ⟨zs, .inr ⟨_, rfl, hl, hm, hz', hcell, hwz⟩, by omega⟩
  clear hA0 hval0
  refine (walk a0 len0 cap0 z0 a1 a2 len2 cap2 z2 W w0 w1 w2 m0 m2).mono fun e W' ⟨he, bel⟩ => ?_
  subst he
  exact ⟨_, rfl, _, _, _, [], _, [], hW', trodAll_mk1 (shut_bool Yba.underlying4 _), (trodAll_cons_mk (Below.trod laidOut (by kernel_rfl) (of_decide_eq_true (by kernel_rfl)) k0 bel lt0) (trodAll_cons_mk (shut_int Yba.underlying5 w1) (trodAll_cons_mk (Below.trod laidOut (by kernel_rfl) (of_decide_eq_true (by kernel_rfl)) k2 bel lt2) trodAll_mk0))), rfl, bel.frame _, fun h => by cases h⟩

theorem over : Rows.lawS5484BWholeRow.holds Yba.pinned (OpenSpec.ofChange Rows.lawS5484BWholeSpec) :=
  OpenClaim.holds_of_wide 3 Yba.f3 rfl rfl rfl rfl rfl rfl rfl ⟨rfl, rfl, rfl, rfl, rfl⟩ rfl rfl rfl rfl rfl (by kernel_rfl) Yba.func3 (by kernel_rfl)
    (of_decide_eq_true (by kernel_rfl)) (by unfold Func.isWrapper; first | (rw [if_pos (by decide +kernel)]; kernel_rfl) | (rw [if_neg (by decide +kernel)]; exact ⟨rfl, rfl⟩))
    (fun os started H enc _ => lifted os started H enc)

/-- ████ THE STATEMENT ████ -/
theorem proved : Rows.LawS5484BWholeSaid := over
#print axioms proved
end Go.Proofs.Ybulkdiny.lawS5484BWhole
