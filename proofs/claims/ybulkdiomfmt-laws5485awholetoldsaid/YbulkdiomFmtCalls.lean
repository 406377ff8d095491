import Derived.Test.YbulkdiomFmtRows
import Derived.Test.YbulkdiomFmtCards
import Derived.Test.YbulkdiomFmtPlain
import Derived.WalkKit
import Derived.ProofKit
import Derived.WalkLawsBesides
import Derived.WalkSpells
import Derived.Stop.CallBack
import Derived.Stop.IfaceNil
import GoSem.ClaimData
import Derived.Deep.QuietTactic
import Derived.BigQuiet
namespace Go.Proofs.YbulkdiomFmt.lawS5485AWhole
open Go.ChangeShapes Go.WideShapes Go.ChangeAt Go.RowKit
open Go.Extern.Stop Go.Stop Go.Extern
open Go.Maps (Keyed string_keyed)
set_option linter.unusedVariables false

theorem call7 (args : Array Value) (w : World) : (callFunc 7 args).run Ybaf.prog w = ((FmtStop.errorf #[9, 36] #[31] args).run Ybaf.prog w).andThen fun v w' => .ok (.value v) w' :=
  run_callFunc_extern Ybaf.func7 (by kernel_rfl) (by kernel_rfl) (by kernel_rfl) (by kernel_rfl) args w
theorem fguard (name : String) (w : World) : (FmtStop.guard name).run Ybaf.prog w = .ok () w := by kernel_rfl
theorem fmt0 : FmtStop.printed? ⟨#[102, 105, 101, 108, 100, 32, 37, 113, 32, 103, 105, 118, 101, 110, 32, 116, 119, 105, 99, 101]⟩ 1 = some [(0, 113, false)] := by kernel_rfl
theorem fmt0r (w : World) : (FmtDoors.printed ⟨#[102, 105, 101, 108, 100, 32, 37, 113, 32, 103, 105, 118, 101, 110, 32, 116, 119, 105, 99, 101]⟩ 1).run Ybaf.prog w = .ok [(0, 113, false)] w := by kernel_rfl
def shape9 : List UInt8 := [12, 6, 0, 0, 0, 0, 0, 0, 0, 115, 116, 114, 105, 110, 103]
theorem op9w (name : String) (x : ByteArray) (w : World) : (FmtStop.operand name true 113 false (.iface 9 (.string x))).run Ybaf.prog w = .ok (shape9, FmtStop.pack x.data.toList) w := by kernel_rfl
theorem ptr38 (w : World) : (FmtStop.ptrTo "errors.errorString").run Ybaf.prog w = .ok 38 w := by kernel_rfl
theorem elem38 (w : World) : (elemOf 38).run Ybaf.prog w = .ok 40 w := by kernel_rfl
theorem isError38 (w : World) : (FmtDoors.textMethod 38 "Error").run Ybaf.prog w = .ok true w := by kernel_rfl
attribute [local go_sem] call7 fguard fmt0 fmt0r op9w ptr38 elem38 isError38

theorem law9 : Keyed Ybaf.prog 9 := string_keyed Ybaf.underlying9
theorem zero4 (w : World) : (zeroValue 4).run Ybaf.prog w = .ok (.bool false) w := by kernel_rfl

theorem grownBy_drew {w w' : World} {r : Option Nat} (h : w.grownBy w' r) : w.grownBy w'.drew r := ⟨h.os, h.tape, h.output, h.size, h.block⟩

set_option maxHeartbeats 400000 in
theorem errorf_any (F : Interp) (nm : ByteArray) (w : World) (hF : F.answers w.tape) (b : Nat) (hc : w.cell? ⟨b, 0, none⟩ = some (.iface 9 (.string nm))) :
    Calls Ybaf.prog 6 #[.string ⟨#[102, 105, 101, 108, 100, 32, 37, 113, 32, 103, 105, 118, 101, 110, 32, 116, 119, 105, 99, 101]⟩, .slice (some ⟨b, 0, none⟩) 1 1] w fun e w' =>
      (∃ t x, e = .returned (.iface t x)) ∧ w.grownBy w' none := by
  have hF' := answers_open hF
  go_enter Ybaf.func6, Ybaf.ntmps6
  go_wp2
  go_ret
  exact ⟨⟨_, _, rfl⟩, grownBy_drew (World.grownBy_alloc w _ none)⟩

/-- 'the block B is a map that reads as D' -/
abbrev OwnsM (w : World) (B n : Nat) (D : DataW Unit) : Prop := w.ownsMap Ybaf.prog 9 (plainElem Ybaf.prog 4) B n D

theorem plainElem_bool_inv {v : Value} {z : DataW Unit × List MemPlace} (h : plainElem Ybaf.prog 4 v = some z) : ∃ b : Bool, v = .bool b ∧ z = (.lit (.bool b), []) := by
  unfold plainElem at h
  rw [Ybaf.underlying4] at h
  cases v <;> simp at h
  exact ⟨_, rfl, h.symm⟩

theorem look_bool {w : World} {B n : Nat} {D : DataW Unit} (h : OwnsM w B n D) {s : ByteArray} (hs : s.size ≤ maxLen) {b : Bool} (hat : D.atKey (Plain.kl s) (Plain.bl false) = Plain.bl b) :
    (Instr.lookup 26 (.map (some B)) (.string s) false).run Ybaf.prog w = .ok (.bool b) w := by
  obtain ⟨v, ps, hrun, hv⟩ := World.ownsMap.lookup (t := 26) (e := 4) h law9 Ybaf.underlying26 (zero4 w) (plainElem_bool (H := Unit) Ybaf.underlying4 false) (WideMaps.keyOf_string_mk Ybaf.underlying9 hs)
  obtain ⟨c, rfl, hc⟩ := plainElem_bool_inv hv
  simp only [Prod.mk.injEq] at hc
  have e : Plain.bl c = Plain.bl b := hc.1.symm.trans hat
  have e' : c = b := by simpa using e
  rw [hrun, e']

theorem look_ok_bool {w : World} {B n : Nat} {D : DataW Unit} (h : OwnsM w B n D) {s : ByteArray} (hs : s.size ≤ maxLen) {b o : Bool} (hat : D.atKey (Plain.kl s) (Plain.bl false) = Plain.bl b) (ho : Maps.has D (Plain.kl s) = o) :
    (Instr.lookup 26 (.map (some B)) (.string s) true).run Ybaf.prog w = .ok (.tuple #[.bool b, .bool o]) w := by
  obtain ⟨v, ps, hrun, hv⟩ := World.ownsMap.look_ok (t := 26) (e := 4) h law9 Ybaf.underlying26 (zero4 w) (plainElem_bool (H := Unit) Ybaf.underlying4 false) (WideMaps.keyOf_string_mk Ybaf.underlying9 hs)
  obtain ⟨c, rfl, hc⟩ := plainElem_bool_inv hv
  simp only [Prod.mk.injEq] at hc
  have e : Plain.bl c = Plain.bl b := hc.1.symm.trans hat
  have e' : c = b := by simpa using e
  rw [hrun, e']
  show Result.ok (Value.tuple #[.bool b, .bool (Maps.has D (Plain.kl s))]) w = _
  rw [ho]

theorem put_bool {w : World} {B n : Nat} {D : DataW Unit} (h : OwnsM w B n D) (hn : n < maxLen) {s : ByteArray} (hs : s.size ≤ maxLen) (b : Bool) :
    ∃ w', (Instr.mapUpdate 26 (.map (some B)) (.string s) (.bool b)).run Ybaf.prog w = .ok () w' ∧ OwnsM w' B (n + 1) (D.put (Plain.kl s) (Plain.bl b)) ∧ w.grownBy w' (some B) :=
  World.ownsMap.update (t := 26) (e := 4) h law9 Ybaf.underlying26 hn (WideMaps.keyOf_string_mk Ybaf.underlying9 hs) (plainElem_bool (H := Unit) Ybaf.underlying4 b)

set_option maxHeartbeats 400000 in
theorem add_err (F : Interp) (nm : ByteArray) (w : World) (hF : F.answers w.tape) (B n : Nat) (D : DataW Unit) (h : OwnsM w B n D) (hs : nm.size ≤ maxLen) (hat : D.atKey (Plain.kl nm) (Plain.bl false) = Plain.bl true) :
    Calls Ybaf.prog 5 #[.map (some B), .string nm] w fun e w' => (∃ t x, e = .returned (.iface t x)) ∧ w.grownBy w' none := by
  have hl := look_bool h hs hat
  have HF : Hid (F.answers w.tape) := hF
  clear hat h hF
  go_enter Ybaf.func5, Ybaf.ntmps5
  go_wp2_with (go_at_call 6; refine (errorf_any F nm _ (by exact HF.out) _ (by simp)).mono ?_; rintro e w' ⟨⟨t, x, rfl⟩, hg⟩)
  go_ret
  exact ⟨⟨_, _, rfl⟩, ⟨hg.os, hg.tape, hg.output, Nat.le_trans (by simp) hg.size, fun k hk hne => (hg.block k (by simp; omega) hne).trans (Below.heap_alloc _ _ _ hk)⟩⟩

set_option maxHeartbeats 400000 in
theorem add_ok (nm : ByteArray) (w : World) (B n : Nat) (D : DataW Unit) (h : OwnsM w B n D) (hn : n < maxLen) (hs : nm.size ≤ maxLen) (hat : D.atKey (Plain.kl nm) (Plain.bl false) = Plain.bl false) :
    Calls Ybaf.prog 5 #[.map (some B), .string nm] w fun e w' => e = .returned .nilIface ∧ OwnsM w' B (n + 1) (D.put (Plain.kl nm) (Plain.bl true)) ∧ w.grownBy w' (some B) := by
  have hl := look_bool h hs hat
  obtain ⟨w1, hrun, hown, hg⟩ := put_bool h hn hs true
  clear hat h
  go_enter Ybaf.func5, Ybaf.ntmps5
  go_wp2
  go_ret
  exact ⟨rfl, hown, hg⟩

theorem toList_inj {s t : ByteArray} (h : s.toList = t.toList) : s = t := by
  rw [ByteArray.toList_eq, ByteArray.toList_eq] at h
  have h2 : s.data = t.data := Array.toList_inj.1 h
  cases s; cases t; simp_all

/-- what the walk reads of a slice of strings: its cells by the index -/
def RdS (w : World) (a : Option Addr) (ks : List ByteArray) : Prop :=
  ∀ i s, ks[i]? = some s → ∃ b off, a = some ⟨b, off, none⟩ ∧ w.cell? ⟨b, off + i, none⟩ = some (.string s)

set_option maxHeartbeats 400000 in
theorem find_any (a : Option Addr) (cap : Nat) (ks : List ByteArray) (k : ByteArray) (w : World) (hl : ks.length ≤ 5000) (hr : RdS w a ks) :
    Calls Ybaf.prog 4 #[.slice a ks.length cap, .string k] w fun e w' => (∃ j : Int, e = .returned (.int .i64 j) ∧ ((j = -1 ∧ k ∉ ks) ∨ ∃ i : Nat, j = i ∧ ks[i]? = some k)) ∧ w' = w := by
  go_enter Ybaf.func4, Ybaf.ntmps4
  go_wp2
  go_loop [5] (fun iv => ∃ i : Nat, i ≤ ks.length ∧ iv = .int .i64 i ∧ k ∉ ks.take i) (fun iv => ks.length - (intOf iv).toNat)
  case atStart => exact ⟨0, Nat.zero_le _, rfl, by simp⟩
  case round =>
    obtain ⟨i, hi, rfl, hno⟩ := hrel
    by_cases hlt : i < ks.length
    · obtain ⟨s, es⟩ : ∃ s, s = ks[i] := ⟨_, rfl⟩
      have hs : ks[i]? = some s := by rw [es]; simp [hlt]
      obtain ⟨b, off, rfl, hc⟩ := hr i s hs
      have hlt' : (i : Int) < (ks.length : Int) := by omega
      clear es hr
      have HS : Hid (ks[i]? = some s ∧ k ∉ ks.take i) := ⟨hs, hno⟩
      clear hs hno
      by_cases e : s = k
      · subst e
        have he : (s.toList == s.toList) = true := by simp
        go_wp2
        go_ret
        exact ⟨⟨_, rfl, .inr ⟨i, rfl, HS.out.1⟩⟩, rfl⟩
      · have he : (s.toList == k.toList) = false := by
          rw [beq_eq_false_iff_ne]
          intro h
          exact e (toList_inj h)
        go_wp2
        go_round
        case rel =>
          refine ⟨i + 1, by omega, by go_num, ?_⟩
          obtain ⟨h1, h2⟩ := HS.out
          have hx : ks.take (i + 1) = ks.take i ++ [s] := by
            rw [List.take_succ_eq_append_getElem hlt]
            rw [List.getElem?_eq_getElem hlt] at h1
            simp only [Option.some.injEq] at h1
            rw [h1]
          rw [hx]
          intro hm
          rcases List.mem_append.1 hm with hm | hm
          · exact h2 hm
          · exact e (List.mem_singleton.1 hm).symm
        case measure => simp [intOf]; omega
    · go_wp2
      go_ret
      refine ⟨⟨_, rfl, .inl ⟨rfl, ?_⟩⟩, rfl⟩
      rw [List.take_of_length_le (by omega)] at hno
      exact hno
end Go.Proofs.YbulkdiomFmt.lawS5485AWhole
