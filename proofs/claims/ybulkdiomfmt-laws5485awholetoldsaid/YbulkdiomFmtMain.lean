import Derived.Test.YbulkdiomFmtMem
import Derived.OwnWalk
namespace Go.Proofs.YbulkdiomFmt.lawS5485AWhole
open Go.ChangeShapes Go.WideShapes Go.ChangeAt Go.RowKit
open Go.Extern.Stop Go.Stop Go.Extern
set_option linter.unusedVariables false

/-- what the walk reads of the entries -/
def RdE (w : World) (a : Option Addr) (n : Nat) (K : Nat → ByteArray) (V : Nat → Bool) : Prop :=
  ∀ i, i < n → ∃ b off, a = some ⟨b, off, none⟩ ∧ b < w.heap.size ∧ w.cell? ⟨b, off + i * 2, none⟩ = some (.string (K i)) ∧ w.cell? ⟨b, off + i * 2 + 1, none⟩ = some (.bool (V i)) ∧ (K i).size ≤ maxLen

theorem one_str (s : ByteArray) : ∀ u ∈ [Value.string s], u.oneCell' = true := by simp [Value.oneCell']
theorem small_new {ks : List ByteArray} {s : ByteArray} (h : Hid (∀ s ∈ ks, s.size ≤ maxLen)) (hs : s.size ≤ maxLen) : Hid (∀ x ∈ ks ++ [s], x.size ≤ maxLen) := by
  intro x hx
  rcases List.mem_append.1 hx with hx | hx
  · exact h.out x hx
  · rw [List.mem_singleton.1 hx]; exact hs

theorem one_bool (b : Bool) : ∀ u ∈ [Value.bool b], u.oneCell' = true := by simp [Value.oneCell']

set_option maxRecDepth 100000 in
set_option maxHeartbeats 2000000 in
theorem main (F : Interp) (a : Option Addr) (n cap : Nat) (K : Nat → ByteArray) (V : Nat → Bool) (nm : ByteArray) (w : World) (hF : F.answers w.tape) (hn : n ≤ 4096) (hr : RdE w a n K V) (hnm : nm.size ≤ maxLen) :
    Calls Ybaf.prog 3 #[.slice a n cap, .string nm] w fun e w' => e = .returned (.bool true) ∧ Below w.heap.size w w' := by
  have hmm := @run_makeMap Ybaf.prog
  have hn' : decide ((4096 : Int) < (n : Int)) = false := decide_eq_false (by omega)
  obtain ⟨i9, hi9, z9, s9, y9⟩ := info_parts Ybaf.info9
  obtain ⟨i4, hi4, z4, s4, y4⟩ := info_parts Ybaf.info4
  have HF : Hid (F.answers w.tape) := hF
  clear hF
  go_enter Ybaf.func3, Ybaf.ntmps3
  go_wp2
  go_loopw [5, 6, 8, 9, 10] (fun kv vv iv _ _ wr => ∃ (k : Nat) (ka va : Option Addr) (kc vc : Nat) (ks : List ByteArray) (vs : List Bool) (D : DataW Unit), k ≤ n ∧ iv = .int .i64 k ∧ kv = .slice ka ks.length kc ∧ vv = .slice va vs.length vc ∧ St w ka va kc vc ks vs D k wr ∧ Hid (∀ s ∈ ks, s.size ≤ maxLen))
    (fun _ _ iv _ _ _ => n - (intOf iv).toNat)
  case atStart => exact ⟨0, none, none, 0, 0, [], [], .map [], Nat.zero_le _, rfl, rfl, rfl, St_start w, by simp [Hid]⟩
  case round =>
    obtain ⟨k, ka, va, kc, vc, ks, vs, D, hk, rfl, rfl, rfl, hS, hsm⟩ := hrel
    by_cases hlt : k < n
    · have hlt' : (k : Int) < (n : Int) := by omega
      obtain ⟨b, off, rfl, hb, hc0, hc1, hsz⟩ := hr k hlt
      obtain ⟨s, es⟩ : ∃ s, s = K k := ⟨_, rfl⟩
      obtain ⟨t, et⟩ : ∃ t, t = V k := ⟨_, rfl⟩
      rw [← es] at hc0 hsz
      rw [← et] at hc1
      have c0 : wr.cell? ⟨b, off + k * 2, none⟩ = some (.string s) := (hS.bel.cell (by exact hb)).trans hc0
      have c1 : wr.cell? ⟨b, off + k * 2 + 1, none⟩ = some (.bool t) := (hS.bel.cell (by exact hb)).trans hc1
      obtain ⟨w1, hrun, hm1, hg1⟩ := put_bool (hS.om.alloc (.cells #[.string s, .bool t] 28)) (by unfold maxLen; omega) hsz t
      have hM := hS.mid hm1 hg1
      have e0 : w1.cell? ⟨wr.heap.size, 0, none⟩ = some (.string s) := hg1.cell (by simp) (by have := hS.lt; simp; omega)
      have e1 : w1.cell? ⟨wr.heap.size, 1, none⟩ = some (.bool t) := hg1.cell (by simp) (by have := hS.lt; simp; omega)
      have HD : Hid (Plain.Held D ks vs) := hS.held
      have hle := hS.le
      have hvl : vs.length ≤ ks.length := by have := hS.held.len; omega
      have hRS := RdS_of hM.ok
      clear es et hc0 hc1 hm1 hg1
      have hwr1 : wr.heap.size < w1.heap.size := lt_of_cell e0
      have hsz1 : w.heap.size + 1 ≤ w1.heap.size := by have := hS.lt; omega
      have hkne : ∀ g, (Value.slice ka ks.length kc).ownBlock = some g → g ≠ wr.heap.size := fun g hg e => by have := (hS.ok.lt g hg).2; omega
      clear hS
      go_wp2_with fail
      refine (find_any ka kc ks s w1 (by omega) hRS).mono ?_
      rintro e w' ⟨⟨j, rfl, hj⟩, rfl⟩
      rcases hj with ⟨rfl, hno⟩ | ⟨i, rfl, hi⟩
      · go_wp2_with (first | (at_builtin; (refine wpList_append_own _ rfl (.tmp 42) (.tmp 45) 23 rfl (w.heap.size + 1) 9 i9 (.string ⟨#[]⟩) 1 16 Ybaf.underlying23 hi9 z9 s9 y9 rfl (by decide) _ _ _ rfl (hM.ok.alloc _) ⟨w'.heap.size, 0, none⟩ 1 1 [.string s] rfl rfl (cell_one_new _ _ _) (one_str s) (by unfold maxLen; omega) (by omega) (by rw [World.size_alloc]; omega) ?_; intro v2 w2 ho2 hg2 _; obtain ⟨ka', kc', hv2, hM2⟩ := hM.key ho2 hg2; have hs2 : w.heap.size < w2.heap.size := hM2.om.lt; have e12 : w2.cell? ⟨wr.heap.size, 1, none⟩ = some (.bool t) := hg2.cell ((World.cell?_alloc_past _ _ _ hwr1).trans e1) (fun e => hkne _ e.symm rfl))) | (at_builtin; (refine wpList_append_own _ rfl (.tmp 47) (.tmp 50) 24 rfl (w.heap.size + 1) 4 i4 (.bool false) 1 1 Ybaf.underlying24 hi4 z4 s4 y4 rfl (by decide) _ _ _ rfl (hM2.ov.alloc _) ⟨w2.heap.size, 0, none⟩ 1 1 [.bool t] rfl rfl (cell_one_new _ _ _) (one_bool t) (by unfold maxLen; omega) (by omega) (by rw [World.size_alloc]; omega) ?_; intro v3 w3 ho3 hg3 _; obtain ⟨va', vc', hv3, hM3⟩ := hM2.val ho3 hg3)))
        go_roundw
        case rel =>
          have hd := HD.out.new hno t
          have hs3 := hM3.st hd (by simp; omega)
          exact ⟨k + 1, ka', va', kc', vc', ks ++ [s], vs ++ [t], _, by omega, by go_num, by simp, by simp, hs3, small_new hsm hsz⟩
        case measure => simp [intOf]; omega
      · have hivs : i < vs.length := by have := (List.getElem?_eq_some_iff.1 hi).1; have := HD.out.len; omega
        obtain ⟨o, ho⟩ : ∃ o, vs[i]? = some o := ⟨vs[i], by simp [hivs]⟩
        obtain ⟨g, rfl, hg, hgc, hgf⟩ := val_cell hM.ov ho
        have hM2 := hM.set hg hivs t
        have hivs' : (i : Int) < (vs.length : Int) := by omega
        have HI : Hid (ks[i]? = some s) := hi
        clear hi ho
        go_wp2
        go_roundw
        case rel =>
          have hd := HD.out.old HI.out t
          have hs3 := hM2.st hd (by omega)
          have hl : (vs.set i t).length = vs.length := by simp
          refine ⟨k + 1, ka, _, kc, vc, ks, vs.set i t, _, by omega, by go_num, rfl, by rw [hl], hs3, hsm⟩
        case measure => simp [intOf]; omega
    · have ek : n = k := by omega
      subst ek
      obtain ⟨w2, e2⟩ : ∃ w2, w2 = wr := ⟨_, rfl⟩
      subst e2
      have hM := hS.toMid
      have HD : Hid (Plain.Held D ks vs) := hS.held
      have hRS := RdS_of hS.ok
      have hle := hS.le
      have hvl : vs.length ≤ ks.length := by have := hS.held.len; omega
      have hsz1 : w.heap.size < w2.heap.size := hS.lt
      have HF2 : Hid (F.answers w2.tape) := by have := HF.out; rw [← hS.bel.tape] at this; exact this
      clear hS
      go_wp2_with fail
      refine (find_any ka kc ks nm w2 (by omega) hRS).mono ?_
      rintro e w' ⟨⟨j, rfl, hj⟩, rfl⟩
      rcases hj with ⟨rfl, hno⟩ | ⟨i, rfl, hi⟩
      · have hab := HD.out.absent hno
        have hHF := HD.out.new hno true
        have hsmF := small_new hsm hnm
        have HAB : Hid (D.atKey (Plain.kl nm) (Plain.bl false) = Plain.bl false) := hab
        have HH : Hid (Plain.Held (D.put (Plain.kl nm) (Plain.bl true)) (ks ++ [nm]) (vs ++ [true])) := hHF
        have hdz : decide ((0 : Int) ≤ -1) = false := by decide
        clear hab hHF hno
        go_wp2_with (first | (at_builtin; refine wpList_append_own _ rfl (.tmp 72) (.tmp 74) 23 rfl (w.heap.size + 1) 9 i9 (.string ⟨#[]⟩) 1 16 Ybaf.underlying23 hi9 z9 s9 y9 rfl (by decide) _ _ _ rfl (hM.ok.alloc _) ⟨w'.heap.size, 0, none⟩ 1 1 [.string nm] rfl rfl (cell_one_new _ _ _) (one_str nm) (by unfold maxLen; omega) (by omega) (by rw [World.size_alloc]; omega) ?_; intro v2 w3 ho2 hg2 _; obtain ⟨ka', kc', hv2, hM2⟩ := hM.key ho2 hg2; have hs2 : w.heap.size < w3.heap.size := hM2.om.lt) | (at_builtin; refine wpList_append_own _ rfl (.tmp 76) (.tmp 77) 24 rfl (w.heap.size + 1) 4 i4 (.bool false) 1 1 Ybaf.underlying24 hi4 z4 s4 y4 rfl (by decide) _ _ _ rfl (hM2.ov.alloc _) ⟨w3.heap.size, 0, none⟩ 1 1 [.bool true] rfl rfl (cell_one_new _ _ _) (one_bool true) (by unfold maxLen; omega) (by omega) (by rw [World.size_alloc]; omega) ?_; intro v3 w4 ho3 hg3 _; obtain ⟨va', vc', hv3, hM3⟩ := hM2.val ho3 hg3))
        refine (add_ok nm w4 w.heap.size n D hM3.om (by unfold maxLen; omega) hnm HAB.out).mono ?_
        rintro e w5 ⟨rfl, hm5, hg5⟩
        have hMF := hM3.turned hm5 hg5
        have hHF := HH.out
        clear hM hM2 hM3 hm5 hg5 ho2 hg2 ho3 hg3
        have hlenrun := hMF.om.len Ybaf.underlying26 3
        rw [hHF.size] at hlenrun
        have hvlF := hHF.len
        have HHF : Hid (Plain.Held (D.put (Plain.kl nm) (Plain.bl true)) (ks ++ [nm]) (vs ++ [true])) := hHF
        have HvlF : Hid ((vs ++ [true]).length = (ks ++ [nm]).length) := hvlF
        have HKL : Hid ((ks ++ [nm]).length = (ks.length + 1)) := by simp [Hid]
        clear hHF hvlF
        go_wp2
        go_loop [14, 15, 16] (fun iv _ _ => ∃ q : Nat, q ≤ (ks.length + 1) ∧ iv = .int .i64 q) (fun iv _ _ => (ks.length + 1) - (intOf iv).toNat)
        case atStart => exact ⟨0, Nat.zero_le _, rfl⟩
        case round =>
          obtain ⟨q, hq, rfl⟩ := hrel
          by_cases hql : q < (ks.length + 1)
          · obtain ⟨s, hs⟩ : ∃ s, (ks ++ [nm])[q]? = some s := ⟨(ks ++ [nm])[q]'(by rw [HKL.out]; exact hql), List.getElem?_eq_getElem (by rw [HKL.out]; exact hql)⟩
            obtain ⟨c, hc⟩ : ∃ c, (vs ++ [true])[q]? = some c := by
              have hx : q < (vs ++ [true]).length := by rw [HvlF.out, HKL.out]; exact hql
              exact ⟨(vs ++ [true])[q], List.getElem?_eq_getElem hx⟩
            obtain ⟨b1, off1, ea, hkc⟩ := RdS_of hMF.ok q s hs
            obtain ⟨g1, eg, hg1, hvc, _⟩ := val_cell hMF.ov hc
            cases ea
            cases eg
            have hlk := look_ok_bool hMF.om (hsmF.out s (List.mem_of_getElem? hs)) (HHF.out.val q s c hs hc) ((HHF.out.has s).2 (List.mem_of_getElem? hs))
            have hql' : (q : Int) < (((ks.length + 1) : Nat) : Int) := by omega
            have hql2 : (q : Int) < (((vs.length + 1) : Nat) : Int) := by have h1 := HvlF.out; have h2 := HKL.out; rw [h2] at h1; simp only [List.length_append, List.length_cons, List.length_nil] at h1; omega
            clear hs hc
            go_wp2
            go_round
            case rel => exact ⟨q + 1, by omega, by go_num⟩
            case measure => simp [intOf]; omega
          · have eq1 : q = (ks.length + 1) := by omega
            subst eq1
            go_wp2
            go_ret
            exact ⟨rfl, hMF.bel⟩
      · have hivs : i < vs.length := by have := (List.getElem?_eq_some_iff.1 hi).1; have := HD.out.len; omega
        obtain ⟨o, ho⟩ : ∃ o, vs[i]? = some o := ⟨vs[i], by simp [hivs]⟩
        obtain ⟨g, rfl, hg, hgc, hgf⟩ := val_cell hM.ov ho
        have hval := HD.out.val i nm o hi ho
        have hivs' : (i : Int) < (vs.length : Int) := by omega
        cases o with
        | true =>
          have HV : Hid (D.atKey (Plain.kl nm) (Plain.bl false) = Plain.bl true) := hval
          have hsmF := hsm
          clear hi ho hval
          go_wp2_with fail
          refine (add_err F nm w' HF2.out w.heap.size n D hM.om hnm HV.out).mono ?_
          rintro e w5 ⟨⟨et, ex, rfl⟩, hg5⟩
          have hMF := hM.beside hg5
          have hHF := HD.out
          clear hM hg5
          have hlenrun := hMF.om.len Ybaf.underlying26 3
          rw [hHF.size] at hlenrun
          have hvlF := hHF.len
          have HHF : Hid (Plain.Held D ks vs) := hHF
          have HvlF : Hid ((vs).length = (ks).length) := hvlF
          clear hHF hvlF
          go_wp2
          go_loop [14, 15, 16] (fun iv _ _ => ∃ q : Nat, q ≤ ks.length ∧ iv = .int .i64 q) (fun iv _ _ => ks.length - (intOf iv).toNat)
          case atStart => exact ⟨0, Nat.zero_le _, rfl⟩
          case round =>
            obtain ⟨q, hq, rfl⟩ := hrel
            by_cases hql : q < ks.length
            · obtain ⟨s, hs⟩ : ∃ s, (ks)[q]? = some s := ⟨ks[q]'hql, List.getElem?_eq_getElem hql⟩
              obtain ⟨c, hc⟩ : ∃ c, (vs)[q]? = some c := by
                have hx : q < (vs).length := by rw [HvlF.out]; exact hql
                exact ⟨(vs)[q], List.getElem?_eq_getElem hx⟩
              obtain ⟨b1, off1, ea, hkc⟩ := RdS_of hMF.ok q s hs
              obtain ⟨g1, eg, hg1, hvc, _⟩ := val_cell hMF.ov hc
              cases ea
              cases eg
              have hlk := look_ok_bool hMF.om (hsmF.out s (List.mem_of_getElem? hs)) (HHF.out.val q s c hs hc) ((HHF.out.has s).2 (List.mem_of_getElem? hs))
              have hql' : (q : Int) < ((ks.length : Nat) : Int) := by omega
              have hql2 : (q : Int) < ((vs.length : Nat) : Int) := by have h1 := HvlF.out; omega
              clear hs hc
              go_wp2
              go_round
              case rel => exact ⟨q + 1, by omega, by go_num⟩
              case measure => simp [intOf]; omega
            · have eq1 : q = ks.length := by omega
              subst eq1
              go_wp2
              go_ret
              exact ⟨rfl, hMF.bel⟩
        | false =>
          have HV : Hid (D.atKey (Plain.kl nm) (Plain.bl false) = Plain.bl false) := hval
          have hsmF := hsm
          have HH : Hid (Plain.Held (D.put (Plain.kl nm) (Plain.bl true)) ks (vs.set i true)) := HD.out.old hi true
          have hM2 := hM.set hg hivs true
          have hl : (vs.set i true).length = vs.length := by simp
          clear hi ho hval
          go_wp2_with fail
          refine (add_ok nm _ w.heap.size n D hM2.om (by unfold maxLen; omega) hnm HV.out).mono ?_
          rintro e w5 ⟨rfl, hm5, hg5⟩
          have hMF := hM2.turned hm5 hg5
          have hHF := HH.out
          clear hM hM2 hm5 hg5
          have hlenrun := hMF.om.len Ybaf.underlying26 3
          rw [hHF.size] at hlenrun
          have hvlF := hHF.len
          have HHF : Hid (Plain.Held (D.put (Plain.kl nm) (Plain.bl true)) ks (vs.set i true)) := hHF
          have HvlF : Hid ((vs.set i true).length = (ks).length) := hvlF
          clear hHF hvlF
          go_wp2
          go_loop [14, 15, 16] (fun iv _ _ => ∃ q : Nat, q ≤ ks.length ∧ iv = .int .i64 q) (fun iv _ _ => ks.length - (intOf iv).toNat)
          case atStart => exact ⟨0, Nat.zero_le _, rfl⟩
          case round =>
            obtain ⟨q, hq, rfl⟩ := hrel
            by_cases hql : q < ks.length
            · obtain ⟨s, hs⟩ : ∃ s, (ks)[q]? = some s := ⟨ks[q]'hql, List.getElem?_eq_getElem hql⟩
              obtain ⟨c, hc⟩ : ∃ c, (vs.set i true)[q]? = some c := by
                have hx : q < (vs.set i true).length := by rw [HvlF.out]; exact hql
                exact ⟨(vs.set i true)[q], List.getElem?_eq_getElem hx⟩
              obtain ⟨b1, off1, ea, hkc⟩ := RdS_of hMF.ok q s hs
              obtain ⟨g1, eg, hg1, hvc, _⟩ := val_cell hMF.ov hc
              cases ea
              cases eg
              have hlk := look_ok_bool hMF.om (hsmF.out s (List.mem_of_getElem? hs)) (HHF.out.val q s c hs hc) ((HHF.out.has s).2 (List.mem_of_getElem? hs))
              have hql' : (q : Int) < ((ks.length : Nat) : Int) := by omega
              have hql2 : (q : Int) < ((vs.length : Nat) : Int) := by have h1 := HvlF.out; rw [List.length_set] at h1; omega
              clear hs hc
              go_wp2
              go_round
              case rel => exact ⟨q + 1, by omega, by go_num⟩
              case measure => simp [intOf]; omega
            · have eq1 : q = ks.length := by omega
              subst eq1
              go_wp2
              go_ret
              exact ⟨rfl, hMF.bel⟩
end Go.Proofs.YbulkdiomFmt.lawS5485AWhole
