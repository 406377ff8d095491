/-
  A PROOF OF THE TOLD CARD 'Rows.LawS5485AWholeToldSaid'. fmt's text is told by the authors' own function; the law's answer does not hang on it.
-/
import Derived.Test.YbulkdiomFmtRows
import Derived.Test.YbulkdiomFmtCards
import Derived.Test.YbulkdiomFmtMain
import Derived.OpenShut
import Derived.ShutString
import Derived.ChangeOld
import Derived.Below
import Derived.Stop.JoinedTold
import Derived.SevenToldRow
import Derived.Deep.SlicePairs
namespace Go.Proofs.YbulkdiomFmt.lawS5485AWhole
open Go.ChangeShapes Go.WideShapes Go.ChangeAt Go.RowKit Go.Deep
open Go.ChangeMaps (open_string shut_string)
open Go.Extern.Stop Go.Stop Go.Extern
set_option linter.unusedVariables false

theorem own : ownKnob Ybaf.prog.godebug = none := by kernel_rfl
theorem laidOut : laidOutB Ybaf.prog = true := by kernel_rfl
theorem laidOut' : laidOutB Ybaf.pinned.checked.prog = true := by kernel_rfl
theorem stops : Ybaf.pinned.checked.prog.stops = ["fmt.errorf"] := by kernel_rfl
theorem stopKnobs : Ybaf.pinned.checked.prog.stopKnobs = [] := by kernel_rfl
theorem quiet (os : Os) : Stop.quiet Ybaf.pinned.checked.prog os := by
  intro k hk
  rw [stopKnobs] at hk
  cases hk
theorem cells28 : Ybaf.prog.cellsOf 28 = 2 := by kernel_rfl
theorem cells9 : Ybaf.prog.cellsOf 9 = 1 := by kernel_rfl
theorem cells4 : Ybaf.prog.cellsOf 4 = 1 := by kernel_rfl

set_option maxRecDepth 100000 in
theorem walk (F : Interp) (a : Option Addr) (n cap : Nat) (K : Nat → ByteArray) (V : Nat → Bool) (nm : ByteArray) (w : World) (hF : F.answers w.tape) (hr : RdE w a n K V) (hnm : nm.size ≤ maxLen) :
    Calls Ybaf.prog 3 #[.slice a n cap, .string nm] w fun e w' => e = .returned (.bool true) ∧ Below w.heap.size w w' := by
  by_cases hn : n ≤ 4096
  · exact main F a n cap K V nm w hF hn hr hnm
  · have hbig : (4096 : Int) < (n : Int) := by omega
    clear hr hF
    go_enter Ybaf.func3, Ybaf.ntmps3
    go_wp2
    go_ret
    exact ⟨rfl, Below.refl _ _⟩

set_option maxRecDepth 100000 in
theorem t_lifted (os : Os) (started : os.Started) (H : Type) (enc : TypeId × Value → H) :
    ReturnsInTold none {} Ybaf.checked os 3 .any Input.okWide ((OpenSpec.ofChange Rows.lawS5485AWholeSpec).preRow enc Ybaf.prog Ybaf.f3 Rows.lawS5485AWholeRow.domain false []) (fun F => ((OpenSpec.ofChange Rows.lawS5485AWholeSpec).at F).post enc Ybaf.prog Ybaf.f3 false true false false) (aloneAtReturn Ybaf.prog) nothingAlways := by
  refine returnsInTold_of_row (C := Ybaf.checked) (s := OpenSpec.ofChange Rows.lawS5485AWholeSpec) (by kernel_rfl) own started (by kernel_rfl) Ybaf.func3
    (OpenSpec.witness_stopped (enc := enc) (C := Ybaf.checked) false ⟨#[], #[.slice none 0 0, .string ⟨#[]⟩], []⟩ 8 (by kernel_rfl) (by kernel_rfl) (by kernel_rfl) (by kernel_rfl)) ?_
  intro F W base args ds gs before _ hF hval0 hW _ _ hsz _ _
  have hval : ∀ (j : Nat) t v, Ybaf.f3.params[j]? = some t → args[j]? = some v → Value.okWide Ybaf.prog W .any base t v := hval0
  have hW' := hW
  obtain ⟨p, q, hA0, hV, rfl, hfz, hnd⟩ := hW
  have hA : DataW.TrodAll enc Ybaf.prog W 0 (fun _ => true) true Ybaf.f3.params.toList args.toList ds p := hA0
  rw [Ybaf.params3] at hA hval
  obtain ⟨v0, v1, d0, d1, p0, p1, rfl, rfl, rfl, h0, h1⟩ := trodAll_two hA
  obtain ⟨rfl, rfl⟩ := trodVars_none hV
  obtain ⟨a0, len, cap, rfl⟩ := okWide_slice Ybaf.underlying22 (hval 0 22 v0 rfl rfl)
  obtain ⟨nm, rfl, rfl, rfl, wnm⟩ := open_string Ybaf.underlying9 (hval 1 9 v1 rfl rfl) h1
  have k0 := h0
  have lt0 : ∀ x ∈ p0, x.block < W.heap.size := by obtain ⟨m, hm⟩ := k0; exact DataW.trod_lt m _ _ _ hm
  clear hA0 hval0
  obtain ⟨K, V, hR⟩ : ∃ K V, RdE W a0 len K V := by
    obtain ⟨fuel, hf⟩ := h0
    rcases open_slice_pairs Ybaf.underlying22 Ybaf.underlying28 cells28 rfl rfl cells9 cells4 hf with ⟨hcs, _⟩ | ⟨x, l, c, m, k, V0, V1, D0, D1, P0, P1, hcs, _, hl, hm, hmm, _, hall⟩
    · simp [Value.cells] at hcs
      obtain ⟨rfl, rfl, rfl⟩ := hcs
      exact ⟨fun _ => ByteArray.empty, fun _ => false, fun i hi => by omega⟩
    · simp [Value.cells] at hcs
      obtain ⟨rfl, rfl, rfl⟩ := hcs
      simp only [if_true] at hmm
      obtain ⟨b, off, spot⟩ := x
      have h2 : ∀ i, i < len → ∃ q : ByteArray × Bool, V0 i = .string q.1 ∧ V1 i = .bool q.2 ∧ q.1.size ≤ maxLen := fun i hi => by
        obtain ⟨_, _, h3, h4⟩ := hall i (by omega)
        obtain ⟨s, e1, _, hs⟩ := DataW.trod_string Ybaf.underlying9 h3
        obtain ⟨t, e2, _⟩ := DataW.trod_bool Ybaf.underlying4 h4
        simp only [List.cons.injEq, and_true] at e1 e2
        exact ⟨(s, t), e1, e2, hs⟩
      obtain ⟨Q, hQ⟩ := choose_lt h2
      refine ⟨fun i => (Q i).1, fun i => (Q i).2, fun i hi => ?_⟩
      obtain ⟨g1, g2, _, _⟩ := hall i (by omega)
      obtain ⟨e1, e2, hs⟩ := hQ i hi
      have hspot : spot = none := by
        have := World.cell?_spot (hall 0 (by omega)).1
        simpa [Addr.add] using this
      subst hspot
      rw [add_plain, e1] at g1
      rw [add_plain, e2] at g2
      exact ⟨b, off, rfl, lt_of_cell g1, g1, by rw [Nat.add_assoc]; exact g2, hs⟩
  refine (walk F.told a0 len cap K V nm W hF hR wnm).mono fun e W' ⟨he, bel⟩ => ?_
  subst he
  exact ⟨_, rfl, _, _, _, [], _, [], hW', trodAll_mk1 (shut_bool Ybaf.underlying4 _), trodAll_mk2 (Below.trod laidOut (by kernel_rfl) (of_decide_eq_true (by kernel_rfl)) k0 bel lt0) (shut_string Ybaf.underlying9 wnm), rfl, bel.frame _, fun h => by cases h⟩

/-- THE CARD -/
theorem proved : Rows.LawS5485AWholeToldSaid :=
  Claim7.holds_of_told_any 3 Ybaf.f3 "fmt.errorf" [] [] _ _ _ (by kernel_rfl) rfl rfl rfl laidOut' (by kernel_rfl) rfl ⟨rfl, rfl, rfl, rfl, rfl, rfl, rfl⟩ rfl rfl (by kernel_rfl) (by kernel_rfl) Ybaf.func3 (by kernel_rfl)
    (of_decide_eq_true (by kernel_rfl)) (by unfold Func.isWrapper; first | (rw [if_pos (by decide +kernel)]; kernel_rfl) | (rw [if_neg (by decide +kernel)]; exact ⟨rfl, rfl⟩)) stops.symm rfl stopKnobs.symm (by kernel_rfl)
    (by kernel_rfl) (by kernel_rfl) (by kernel_rfl) (by kernel_rfl) (by kernel_rfl) (by kernel_rfl) (by kernel_rfl) (by kernel_rfl) (by kernel_rfl) rfl (by kernel_rfl) rfl rfl
    rfl rfl
    rfl (by kernel_rfl) (by kernel_rfl) (by kernel_rfl) (by decide) (by kernel_rfl)
    (OpenClaim.moreEntering_of (by kernel_rfl) (by kernel_rfl) (by kernel_rfl) (by kernel_rfl) (by kernel_rfl) (by kernel_rfl) (by kernel_rfl) (by kernel_rfl) (by kernel_rfl) (by kernel_rfl))
    ⟨_, WideRow.started_initial, quiet _⟩
    (fun os started _ H enc _ => t_lifted os started H enc)
#print axioms proved
end Go.Proofs.YbulkdiomFmt.lawS5485AWhole
