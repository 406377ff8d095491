import Derived.Test.YbulkdiomRows
import Derived.Test.YbulkdiomPlain
import Derived.WalkKit
import Derived.ProofKit
import Derived.OpenShut
import Derived.ShutString
import Derived.ChangeOld
import Derived.Below
import Derived.WalkLawsBesides
import Derived.WalkSpells
import Derived.Deep.QuietTactic
import Derived.BigQuiet
import Derived.LaidEql
import Derived.Lib.SliceRun
import Derived.Deep.OwnRows
namespace Go.Proofs.Ybulkdiom.lawS5485CWhole
open Go.ChangeShapes Go.WideShapes Go.ChangeAt Go.RowKit
set_option linter.unusedVariables false

/-- what the walk reads of a slice that came in: its cells by the index -/
def Rd (N : Nat) (w : World) (a : Option Addr) (len : Nat) (z : Nat → Int) : Prop :=
  ∀ i, i < len → ∃ b off, a = some ⟨b, off, none⟩ ∧ b < N ∧ w.cell? ⟨b, off + i, none⟩ = some (.int .i64 (z i))

def parOf (z : Nat → Int) (len : Nat) (i : Nat) : Int :=
  if i = 0 then -1 else if len ≤ i then (i : Int) - 1 else if z i < 0 then -1 else z i % (i : Int)

theorem parOf_bd (z : Nat → Int) (len i : Nat) : -1 ≤ parOf z len i ∧ parOf z len i < i := by
  unfold parOf
  split
  · omega
  · split
    · omega
    · split
      · omega
      · have h1 := Int.emod_nonneg (z i) (show (i : Int) ≠ 0 by omega)
        have h2 := Int.emod_lt_of_pos (z i) (show (0 : Int) < i by omega)
        omega

set_option maxHeartbeats 400000 in
theorem parent_any (N : Nat) (a : Option Addr) (len cap : Nat) (z : Nat → Int) (i : Nat) (w : World) (hi : i ≤ 1048576) (hr : Rd N w a len z) (hz : ∀ i, i < len → z i ≤ 9223372036854775807) :
    Calls Yba.prog 4 #[.slice a len cap, .int .i64 i] w fun e w' => e = .returned (.int .i64 (parOf z len i)) ∧ w' = w := by
  unfold parOf
  by_cases h0 : i = 0
  · subst h0
    go_enter Yba.func4, Yba.ntmps4
    go_wp2
    go_ret
    exact ⟨rfl, rfl⟩
  · rw [if_neg h0]
    have h0' : ((i : Int) == 0) = false := beq_eq_false_iff_ne.2 (by omega)
    by_cases h1 : len ≤ i
    · rw [if_pos h1]
      go_enter Yba.func4, Yba.ntmps4
      go_wp2
      go_ret
      exact ⟨rfl, rfl⟩
    · rw [if_neg h1]
      obtain ⟨b, off, rfl, hb, hc⟩ := hr i (by omega)
      have hzi := hz i (by omega)
      clear hr hz
      have hi' : (i : Int) < (len : Int) := by omega
      by_cases h2 : z i < 0
      · rw [if_pos h2]
        go_enter Yba.func4, Yba.ntmps4
        go_wp2
        go_ret
        exact ⟨rfl, rfl⟩
      · rw [if_neg h2]
        have h2' : 0 ≤ z i := by omega
        have hm1 := Int.emod_nonneg (z i) (show (i : Int) ≠ 0 by omega)
        have hm2 := Int.emod_lt_of_pos (z i) (show (0 : Int) < i by omega)
        go_enter Yba.func4, Yba.ntmps4
        go_wp2
        go_ret
        exact ⟨rfl, rfl⟩

theorem rowIs_drewN {w : World} {b : Nat} {t : TypeId} {n : Nat} {f : Nat → Value} (h : w.rowIs b t n f) (k : Nat) : (w.drewN k).rowIs b t n f := by
  obtain ⟨c, hb, hn, hc⟩ := h
  exact ⟨c, by simpa [World.drewN] using hb, hn, hc⟩

theorem grownBy_drewN {w w' : World} {r : Option Nat} (h : w.grownBy w' r) (k : Nat) : w.grownBy (w'.drewN k) r :=
  ⟨by simpa [World.drewN] using h.os, by simpa [World.drewN] using h.tape, by simpa [World.drewN] using h.output, by simpa [World.drewN] using h.size, fun j hj hne => by simpa [World.drewN] using h.block j hj hne⟩

theorem size_drewN (w : World) (k : Nat) : (w.drewN k).heap.size = w.heap.size := by simp [World.drewN]

set_option maxHeartbeats 1000000 in
theorem raise_any (n T NB Pl Se M p : Nat) (thr par m : Nat → Int) (w : World) (hn : n ≤ 1048576)
    (hpar : ∀ q : Nat, -1 ≤ par q ∧ par q < q) (hp : p < n)
    (hT0 : w.cell? ⟨T, 0, none⟩ = some (.pointer (some ⟨NB, 0, none⟩)))
    (hT2 : w.cell? ⟨T, 2, none⟩ = some (.slice (some ⟨M, 0, none⟩) n n))
    (hN3 : w.cell? ⟨NB, 3, none⟩ = some (.slice (some ⟨Pl, 0, none⟩) n n))
    (hP1 : ∀ q, q < n → w.cell? ⟨Pl, q * 3 + 1, none⟩ = some (.pointer (some ⟨Se, q * 3, none⟩)))
    (hP2 : ∀ q, q < n → w.cell? ⟨Pl, q * 3 + 2, none⟩ = some (.int .i64 (par q)))
    (hS : ∀ q, q < n → w.cell? ⟨Se, q * 3, none⟩ = some (.int .i64 (thr q)))
    (hM : w.rowIs M 3 n (fun i => .int .i64 (m i)))
    (dT : ¬ T = M) (dN : ¬ NB = M) (dP : ¬ Pl = M) (dS : ¬ Se = M) :
    Calls Yba.prog 5 #[.pointer (some ⟨T, 0, none⟩), .int .i64 p] w fun e w' => e = .returned (.tuple #[]) ∧
      w'.rowIs M 3 n (fun i => .int .i64 (Plain.raised (fun x => wrap64 (x + 1)) m (Plain.upto (fun q => wrap64 (m q + 1) != thr q) (Plain.chain par p)) i)) ∧ w.grownBy w' (some M) ∧ w'.heap.size = w.heap.size := by
  go_enter Yba.func5, Yba.ntmps5
  go_wp2
  go_loopw [1, 4] (fun pv _ wr => ∃ q : Nat, q < n ∧ pv = .int .i64 q ∧ ∃ pre, pre ++ Plain.chain par q = Plain.chain par p ∧ (∀ x ∈ pre, (wrap64 (m x + 1) != thr x) = false) ∧
      wr.rowIs M 3 n (fun i => .int .i64 (Plain.raised (fun x => wrap64 (x + 1)) m pre i)) ∧ w.grownBy wr (some M) ∧ wr.heap.size = w.heap.size)
    (fun pv _ _ => (intOf pv).toNat)
  case atStart => exact ⟨p, hp, rfl, [], rfl, by simp, hM.congr (fun i _ => by rw [Plain.raised_nil]), ⟨rfl, rfl, rfl, Nat.le_refl _, fun _ _ _ => rfl⟩, rfl⟩
  case round =>
    obtain ⟨q, hq, rfl, pre, hch, hbad, hrow, hgr, hsz⟩ := hrel
    have hcq := Plain.chain_eq par hpar q
    have hnm := Plain.not_mem_pre (r := if par q < 0 then [] else Plain.chain par (par q).toNat) hpar (by rw [← hch, hcq])
    have hpq := hpar q
    have hq' : (q : Int) < (n : Int) := by omega
    have cT0 := hgr.cell hT0 (by simpa using dT)
    have cT2 := hgr.cell hT2 (by simpa using dT)
    have cN3 := hgr.cell hN3 (by simpa using dN)
    have cP1 := hgr.cell (hP1 q hq) (by simpa using dP)
    have cP2 := hgr.cell (hP2 q hq) (by simpa using dP)
    have cS := hgr.cell (hS q hq) (by simpa using dS)
    have cM : wr.cell? ⟨M, q, none⟩ = some (.int .i64 (m q)) := by rw [hrow.cell hq, Plain.raised_out _ _ _ _ hnm]
    have fM := hrow.frozen q
    have H : Hid (Plain.chain par q = q :: (if par q < 0 then [] else Plain.chain par (par q).toNat) ∧ pre ++ Plain.chain par q = Plain.chain par p ∧ (∀ x ∈ pre, (wrap64 (m x + 1) != thr x) = false)) := ⟨hcq, hch, hbad⟩
    have HP : Hid (∀ q : Nat, -1 ≤ par q ∧ par q < q) := hpar
    have HZ : Hid (wr.heap.size = w.heap.size) := hsz
    have hR : (wr.setCell ⟨M, q, none⟩ (.int .i64 (wrap64 (m q + 1)))).rowIs M 3 n (fun i => .int .i64 (Plain.raised (fun x => wrap64 (x + 1)) m (pre ++ [q]) i)) :=
      (hrow.set q _).congr (fun i _ => by rw [Plain.raised_snoc]; split <;> rfl)
    have hG : w.grownBy (wr.setCell ⟨M, q, none⟩ (.int .i64 (wrap64 (m q + 1)))) (some M) :=
      ⟨hgr.os, hgr.tape, hgr.output, by simpa using hgr.size, fun k hk hne => by rw [Below.heap_setCell _ _ _ _ (by simpa using hne)]; exact hgr.block k hk hne⟩
    clear hcq hch hbad hpar hT0 hT2 hN3 hP1 hP2 hS hM hsz hnm
    cases hb : (wrap64 (m q + 1) != thr q) with
    | true =>
      go_wp2
      go_quiet (fail)
      go_wp2
      refine bodyPost_ret (results_none rfl _ _ _) rfl ?_
      refine ⟨rfl, (rowIs_drewN hR _).congr fun i _ => ?_, grownBy_drewN hG _, ?_⟩
      · obtain ⟨hcq, hch, hbad⟩ := H.out
        rw [← hch, Plain.upto_append _ _ _ hbad, hcq]
        simp [Plain.upto, hb]
      · rw [size_drewN]; simpa using HZ.out
    | false =>
      by_cases hz : par q < 0
      · go_wp2
        go_quiet (fail)
        go_wp2
        refine bodyPost_ret (results_none rfl _ _ _) rfl ?_
        refine ⟨rfl, (rowIs_drewN hR _).congr fun i _ => ?_, grownBy_drewN hG _, ?_⟩
        · obtain ⟨hcq, hch, hbad⟩ := H.out
          rw [← hch, Plain.upto_append _ _ _ hbad, hcq, if_pos hz]
          simp [Plain.upto, hb]
        · rw [size_drewN]; simpa using HZ.out
      · have hz' : decide (par q < 0) = false := decide_eq_false hz
        go_wp2
        go_quiet (fail)
        go_wp2
        go_roundw
        case rel =>
          obtain ⟨hcq, hch, hbad⟩ := H.out
          refine ⟨(par q).toNat, by omega, by congr 1; omega, pre ++ [q], ?_, ?_, rowIs_drewN hR _, grownBy_drewN hG _, ?_⟩
          · rw [← hch, hcq, if_neg (by omega)]; simp
          · intro x hx
            rcases List.mem_append.1 hx with hx | hx
            · exact hbad x hx
            · obtain rfl : x = q := by simpa using hx
              exact hb
          · rw [size_drewN]; simpa using HZ.out
        case measure => simp [intOf]; omega
end Go.Proofs.Ybulkdiom.lawS5485CWhole
