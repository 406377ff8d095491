/-
  A PROOF OF 'Rows.LawS5481BWholeSaid'. The frame is the shell's (proof-skeleton.mjs); the walks are this seat's.
-/
import Derived.Test.YbulkdimiRows
import Derived.WalkKit
import Derived.ProofKit
import Derived.OpenShut
import Derived.ShutString
import Derived.WalkLawsBesides
import Derived.WalkSpells
import Derived.Deep.QuietTactic
import Derived.BigQuiet
import Derived.LaidEql
import Derived.Lib.SliceRun
namespace Go.Proofs.Ybulkdimi.lawS5481BWhole
open Go.ChangeShapes Go.WideShapes Go.ChangeAt Go.RowKit
open Go.ChangeMaps (open_string shut_string)
set_option linter.unusedVariables false      -- a walk need not use every 'w<i>' (that an integer argument fits its kind)

theorem own : ownKnob Yba.prog.godebug = none := by kernel_rfl

/-! ### THE WALKS: the refusal, and the four ways of success; each parts on what data is made of -/
set_option maxHeartbeats 400000 in
theorem tr_ref (op code : Int) (d : Value) (w : World) (h : (code != 1000) = true) :
    Calls Yba.prog 4 #[.int .i64 op, .int .i64 code, d] w fun e w' => e = .returned (.agg #[.int .i64 code, .string ⟨#[]⟩, .string ⟨#[]⟩, .pointer none, .nilIface]) ∧ w.alloc (.cells #[.int .i64 code, .string ⟨#[]⟩, .string ⟨#[]⟩, .pointer none, .nilIface] 30) = w' := by
  go_enter Yba.func4, Yba.ntmps4
  go_wp2
  exact bodyPost_ret (v := .agg #[.int .i64 code, .string ⟨#[]⟩, .string ⟨#[]⟩, .pointer none, .nilIface]) (by simp [results, Yba.results4, go_sem]) rfl ⟨rfl, rfl⟩

set_option maxHeartbeats 400000 in
theorem tr_req (d : Value) (w : World) (hd : d = .nilIface ∨ ∃ t a n c, d = .iface t (.slice a n c)) :
    Calls Yba.prog 4 #[.int .i64 1, .int .i64 1000, d] w fun e w' => e = .returned (.agg #[.int .i64 1001, .string ⟨#[]⟩, .string ⟨#[]⟩, .pointer none, d]) ∧ w.alloc (.cells #[.int .i64 1001, .string ⟨#[]⟩, .string ⟨#[]⟩, .pointer none, d] 30) = w' := by
  rcases hd with rfl | ⟨t, a, n, c, rfl⟩
  · go_enter Yba.func4, Yba.ntmps4
    go_wp2
    exact bodyPost_ret (v := .agg #[.int .i64 1001, .string ⟨#[]⟩, .string ⟨#[]⟩, .pointer none, .nilIface]) (by simp [results, Yba.results4, go_sem]) rfl ⟨rfl, rfl⟩
  · go_enter Yba.func4, Yba.ntmps4
    go_wp2
    exact bodyPost_ret (v := .agg #[.int .i64 1001, .string ⟨#[]⟩, .string ⟨#[]⟩, .pointer none, .iface t (.slice a n c)]) (by simp [results, Yba.results4, go_sem]) rfl ⟨rfl, rfl⟩

set_option maxHeartbeats 400000 in
theorem tr_oth (op : Int) (d : Value) (w : World) (ho : (op == 1) = false) (hd : d = .nilIface ∨ ∃ t a n c, d = .iface t (.slice a n c)) :
    Calls Yba.prog 4 #[.int .i64 op, .int .i64 1000, d] w fun e w' => e = .returned (.agg #[.int .i64 1000, .string ⟨#[]⟩, .string ⟨#[]⟩, .pointer none, d]) ∧ w.alloc (.cells #[.int .i64 1000, .string ⟨#[]⟩, .string ⟨#[]⟩, .pointer none, d] 30) = w' := by
  rcases hd with rfl | ⟨t, a, n, c, rfl⟩
  · go_enter Yba.func4, Yba.ntmps4
    go_wp2
    exact bodyPost_ret (v := .agg #[.int .i64 1000, .string ⟨#[]⟩, .string ⟨#[]⟩, .pointer none, .nilIface]) (by simp [results, Yba.results4, go_sem]) rfl ⟨rfl, rfl⟩
  · go_enter Yba.func4, Yba.ntmps4
    go_wp2
    exact bodyPost_ret (v := .agg #[.int .i64 1000, .string ⟨#[]⟩, .string ⟨#[]⟩, .pointer none, .iface t (.slice a n c)]) (by simp [results, Yba.results4, go_sem]) rfl ⟨rfl, rfl⟩


theorem Yba.info35 : (Yba.prog.info? 35).map (fun i => (i.zero, i.size, i.bytes)) = some (some (.agg #[.string ⟨#[]⟩, .bool false, .string ⟨#[]⟩]), 3, 40) := by kernel_rfl

set_option maxHeartbeats 1000000 in
theorem walk_a (a0 a1 a2 a3 a4 : Int) (w : World) (h2 : 0 ≤ a2) (h3 : 0 ≤ a3) (h4 : 0 ≤ a4) (h2' : a2 ≤ 255) (h3' : a3 ≤ 255) (h4' : a4 ≤ 255)
   (e2 : (a2 % 2 == 0) = false) (c1 : (a1 != 1000) = true) : 
    Calls Yba.prog 3 #[.int .i64 a0, .int .i64 a1, .int .u8 a2, .int .u8 a3, .int .u8 a4] w fun e w' => e = .returned (.bool true) ∧ Grown w w' := by
  obtain ⟨i0, hi, hz0, hz1, hz2⟩ := info_parts Yba.info35
  have hmk := fun w' => run_make (P := Yba.prog) w' 26 35 i0 _ Yba.underlying26 hi hz0 .i64 .i64 (a4 % 16) (a4 % 16) (by omega) (by omega) (by rw [hz2]; omega) (by omega)
  rcases (show a3 % 3 = 0 ∨ a3 % 3 = 1 ∨ a3 % 3 = 2 by omega) with e3 | e3 | e3
  all_goals
    go_enter Yba.func3, Yba.ntmps3
    go_wp2_with (go_at_call 4; refine (tr_ref _ _ _ _ (by assumption)).mono ?_; rintro e w' ⟨rfl, rfl⟩)
    go_ret
    exact ⟨rfl, by repeat (first | exact Grown.refl _ | apply Grown.drew | apply Grown.alloc)⟩


theorem run_equalIn_ptr_same {P : Program} (w : World) (d : Nat) (t e : TypeId) (i : TypeInfo) (a : Addr) (ht : P.underlying t = some (.pointer e)) (hi : P.info? e = some i) (hs : i.size ≠ 0) :
    (Op.equalIn (d + 1) t (.pointer (some a)) (.pointer (some a))).run P w = .ok true w := by
  simp [Op.equalIn, run_underlying ht, sizeOf, typeInfo, hi, run_sameAddr_same]

theorem run_neq_ptr_same {P : Program} (w : World) (t e : TypeId) (i : TypeInfo) (a : Addr) (ht : P.underlying t = some (.pointer e)) (hi : P.info? e = some i) (hs : i.size ≠ 0) :
    (binOp .neq t (.pointer (some a)) (.pointer (some a))).run P w = .ok (.bool false) w := by
  simp only [binOp]
  simp [Op.equal, Op.maxDepth, run_equalIn_ptr_same w 9999 t e i a ht hi hs]

theorem run_assert26 (v : Value) (w : World) : (Instr.typeAssert (.iface 26 v) 24 26 true).run Yba.prog w = .ok (.tuple #[v, .bool true]) w := by
  simp [Instr.typeAssert, run_underlying Yba.underlying26]


set_option maxHeartbeats 2000000 in
theorem walk_b (a1 a2 a3 a4 : Int) (w : World) (h2 : 0 ≤ a2) (h3 : 0 ≤ a3) (h4 : 0 ≤ a4) (h2' : a2 ≤ 255) (h3' : a3 ≤ 255) (h4' : a4 ≤ 255) (e2 : (a2 % 2 == 0) = true) :
    Calls Yba.prog 3 #[.int .i64 1, .int .i64 a1, .int .u8 a2, .int .u8 a3, .int .u8 a4] w fun e w' => e = .returned (.bool true) ∧ Grown w w' := by
  obtain ⟨i0, hi, hz0, hz1, hz2⟩ := info_parts Yba.info35
  have hta := run_assert26
  have hsn := fun w' a n c => Lib.run_eql_slice_nil (P := Yba.prog) w' 26 35 a n c 0 0 Yba.underlying26
  have hpp := fun w' a => run_neq_ptr_same (P := Yba.prog) w' 33 35 i0 a Yba.underlying33 hi (by rw [hz1]; decide)
  rcases (show a3 % 3 = 0 ∨ a3 % 3 = 1 ∨ a3 % 3 = 2 by omega) with e3 | e3 | e3
  · go_enter Yba.func3, Yba.ntmps3
    go_wp2_with (go_at_call 4; refine (tr_req _ _ (.inl rfl)).mono ?_; rintro e w' ⟨rfl, rfl⟩)
    go_ret
    exact ⟨rfl, by repeat (first | exact Grown.refl _ | apply Grown.drew | apply Grown.alloc)⟩
  · by_cases hn : a4 % 16 = 0
    · have hmk := fun w' => run_make (P := Yba.prog) w' 26 35 i0 _ Yba.underlying26 hi hz0 .i64 .i64 0 0 (by omega) (by omega) (by rw [hz2]; omega) (by omega)
      have hd : decide ((0 : Int) < 0) = false := by decide
      go_enter Yba.func3, Yba.ntmps3
      go_wp2_with (go_at_call 4; refine (tr_req _ _ (.inr ⟨_, _, _, _, rfl⟩)).mono ?_; rintro e w' ⟨rfl, rfl⟩)
      go_quiet (fail)
      go_wp2
      go_ret
      exact ⟨rfl, by repeat (first | exact Grown.refl _ | apply Grown.drewN | apply Grown.drew | apply Grown.alloc)⟩
    · obtain ⟨n, hk⟩ : ∃ n : Nat, a4 % 16 = n := ⟨(a4 % 16).toNat, by omega⟩
      have hmk := fun w' => run_make (P := Yba.prog) w' 26 35 i0 _ Yba.underlying26 hi hz0 .i64 .i64 (n : Int) (n : Int) (by omega) (by omega) (by rw [hz2]; omega) (by omega)
      have hd : 0 < n := by omega
      clear hn
      go_enter Yba.func3, Yba.ntmps3
      go_wp2_with (go_at_call 4; refine (tr_req _ _ (.inr ⟨_, _, _, _, rfl⟩)).mono ?_; rintro e w' ⟨rfl, rfl⟩)
      go_quiet (fail)
      go_wp2
      go_ret
      exact ⟨rfl, by repeat (first | exact Grown.refl _ | apply Grown.drewN | apply Grown.drew | apply Grown.alloc)⟩
  · have hd : decide ((0 : Int) < 0) = false := by decide
    go_enter Yba.func3, Yba.ntmps3
    go_wp2_with (go_at_call 4; refine (tr_req _ _ (.inr ⟨_, _, _, _, rfl⟩)).mono ?_; rintro e w' ⟨rfl, rfl⟩)
    go_quiet (fail)
    go_wp2
    go_ret
    exact ⟨rfl, by repeat (first | exact Grown.refl _ | apply Grown.drewN | apply Grown.drew | apply Grown.alloc)⟩

set_option maxHeartbeats 2000000 in
theorem walk_c (a0 a1 a2 a3 a4 : Int) (w : World) (h2 : 0 ≤ a2) (h3 : 0 ≤ a3) (h4 : 0 ≤ a4) (h2' : a2 ≤ 255) (h3' : a3 ≤ 255) (h4' : a4 ≤ 255) (e2 : (a2 % 2 == 0) = true) (c0 : (a0 == 1) = false) :
    Calls Yba.prog 3 #[.int .i64 a0, .int .i64 a1, .int .u8 a2, .int .u8 a3, .int .u8 a4] w fun e w' => e = .returned (.bool true) ∧ Grown w w' := by
  obtain ⟨i0, hi, hz0, hz1, hz2⟩ := info_parts Yba.info35
  have hta := run_assert26
  have hsn := fun w' a n c => Lib.run_eql_slice_nil (P := Yba.prog) w' 26 35 a n c 0 0 Yba.underlying26
  have hpp := fun w' a => run_neq_ptr_same (P := Yba.prog) w' 33 35 i0 a Yba.underlying33 hi (by rw [hz1]; decide)
  rcases (show a3 % 3 = 0 ∨ a3 % 3 = 1 ∨ a3 % 3 = 2 by omega) with e3 | e3 | e3
  · go_enter Yba.func3, Yba.ntmps3
    go_wp2_with (go_at_call 4; refine (tr_oth _ _ _ c0 (.inl rfl)).mono ?_; rintro e w' ⟨rfl, rfl⟩)
    go_ret
    exact ⟨rfl, by repeat (first | exact Grown.refl _ | apply Grown.drew | apply Grown.alloc)⟩
  · by_cases hn : a4 % 16 = 0
    · have hmk := fun w' => run_make (P := Yba.prog) w' 26 35 i0 _ Yba.underlying26 hi hz0 .i64 .i64 0 0 (by omega) (by omega) (by rw [hz2]; omega) (by omega)
      have hd : decide ((0 : Int) < 0) = false := by decide
      go_enter Yba.func3, Yba.ntmps3
      go_wp2_with (go_at_call 4; refine (tr_oth _ _ _ c0 (.inr ⟨_, _, _, _, rfl⟩)).mono ?_; rintro e w' ⟨rfl, rfl⟩)
      go_quiet (fail)
      go_wp2
      go_ret
      exact ⟨rfl, by repeat (first | exact Grown.refl _ | apply Grown.drewN | apply Grown.drew | apply Grown.alloc)⟩
    · obtain ⟨n, hk⟩ : ∃ n : Nat, a4 % 16 = n := ⟨(a4 % 16).toNat, by omega⟩
      have hmk := fun w' => run_make (P := Yba.prog) w' 26 35 i0 _ Yba.underlying26 hi hz0 .i64 .i64 (n : Int) (n : Int) (by omega) (by omega) (by rw [hz2]; omega) (by omega)
      have hd : 0 < n := by omega
      clear hn
      go_enter Yba.func3, Yba.ntmps3
      go_wp2_with (go_at_call 4; refine (tr_oth _ _ _ c0 (.inr ⟨_, _, _, _, rfl⟩)).mono ?_; rintro e w' ⟨rfl, rfl⟩)
      go_quiet (fail)
      go_wp2
      go_ret
      exact ⟨rfl, by repeat (first | exact Grown.refl _ | apply Grown.drewN | apply Grown.drew | apply Grown.alloc)⟩
  · have hd : decide ((0 : Int) < 0) = false := by decide
    go_enter Yba.func3, Yba.ntmps3
    go_wp2_with (go_at_call 4; refine (tr_oth _ _ _ c0 (.inr ⟨_, _, _, _, rfl⟩)).mono ?_; rintro e w' ⟨rfl, rfl⟩)
    go_quiet (fail)
    go_wp2
    go_ret
    exact ⟨rfl, by repeat (first | exact Grown.refl _ | apply Grown.drewN | apply Grown.drew | apply Grown.alloc)⟩

set_option maxHeartbeats 2000000 in
theorem walk_d (a2 a3 a4 : Int) (w : World) (h2 : 0 ≤ a2) (h3 : 0 ≤ a3) (h4 : 0 ≤ a4) (h2' : a2 ≤ 255) (h3' : a3 ≤ 255) (h4' : a4 ≤ 255) (e2 : (a2 % 2 == 0) = false) :
    Calls Yba.prog 3 #[.int .i64 1, .int .i64 1000, .int .u8 a2, .int .u8 a3, .int .u8 a4] w fun e w' => e = .returned (.bool true) ∧ Grown w w' := by
  obtain ⟨i0, hi, hz0, hz1, hz2⟩ := info_parts Yba.info35
  have hta := run_assert26
  have hsn := fun w' a n c => Lib.run_eql_slice_nil (P := Yba.prog) w' 26 35 a n c 0 0 Yba.underlying26
  have hpp := fun w' a => run_neq_ptr_same (P := Yba.prog) w' 33 35 i0 a Yba.underlying33 hi (by rw [hz1]; decide)
  rcases (show a3 % 3 = 0 ∨ a3 % 3 = 1 ∨ a3 % 3 = 2 by omega) with e3 | e3 | e3
  · go_enter Yba.func3, Yba.ntmps3
    go_wp2_with (go_at_call 4; refine (tr_req _ _ (.inl rfl)).mono ?_; rintro e w' ⟨rfl, rfl⟩)
    go_ret
    exact ⟨rfl, by repeat (first | exact Grown.refl _ | apply Grown.drew | apply Grown.alloc)⟩
  · by_cases hn : a4 % 16 = 0
    · have hmk := fun w' => run_make (P := Yba.prog) w' 26 35 i0 _ Yba.underlying26 hi hz0 .i64 .i64 0 0 (by omega) (by omega) (by rw [hz2]; omega) (by omega)
      have hd : decide ((0 : Int) < 0) = false := by decide
      go_enter Yba.func3, Yba.ntmps3
      go_wp2_with (go_at_call 4; refine (tr_req _ _ (.inr ⟨_, _, _, _, rfl⟩)).mono ?_; rintro e w' ⟨rfl, rfl⟩)
      go_quiet (fail)
      go_wp2
      go_ret
      exact ⟨rfl, by repeat (first | exact Grown.refl _ | apply Grown.drewN | apply Grown.drew | apply Grown.alloc)⟩
    · obtain ⟨n, hk⟩ : ∃ n : Nat, a4 % 16 = n := ⟨(a4 % 16).toNat, by omega⟩
      have hmk := fun w' => run_make (P := Yba.prog) w' 26 35 i0 _ Yba.underlying26 hi hz0 .i64 .i64 (n : Int) (n : Int) (by omega) (by omega) (by rw [hz2]; omega) (by omega)
      have hd : 0 < n := by omega
      clear hn
      go_enter Yba.func3, Yba.ntmps3
      go_wp2_with (go_at_call 4; refine (tr_req _ _ (.inr ⟨_, _, _, _, rfl⟩)).mono ?_; rintro e w' ⟨rfl, rfl⟩)
      go_quiet (fail)
      go_wp2
      go_ret
      exact ⟨rfl, by repeat (first | exact Grown.refl _ | apply Grown.drewN | apply Grown.drew | apply Grown.alloc)⟩
  · have hd : decide ((0 : Int) < 0) = false := by decide
    go_enter Yba.func3, Yba.ntmps3
    go_wp2_with (go_at_call 4; refine (tr_req _ _ (.inr ⟨_, _, _, _, rfl⟩)).mono ?_; rintro e w' ⟨rfl, rfl⟩)
    go_quiet (fail)
    go_wp2
    go_ret
    exact ⟨rfl, by repeat (first | exact Grown.refl _ | apply Grown.drewN | apply Grown.drew | apply Grown.alloc)⟩

set_option maxHeartbeats 2000000 in
theorem walk_e (a0 a2 a3 a4 : Int) (w : World) (h2 : 0 ≤ a2) (h3 : 0 ≤ a3) (h4 : 0 ≤ a4) (h2' : a2 ≤ 255) (h3' : a3 ≤ 255) (h4' : a4 ≤ 255) (e2 : (a2 % 2 == 0) = false) (c0 : (a0 == 1) = false) :
    Calls Yba.prog 3 #[.int .i64 a0, .int .i64 1000, .int .u8 a2, .int .u8 a3, .int .u8 a4] w fun e w' => e = .returned (.bool true) ∧ Grown w w' := by
  obtain ⟨i0, hi, hz0, hz1, hz2⟩ := info_parts Yba.info35
  have hta := run_assert26
  have hsn := fun w' a n c => Lib.run_eql_slice_nil (P := Yba.prog) w' 26 35 a n c 0 0 Yba.underlying26
  have hpp := fun w' a => run_neq_ptr_same (P := Yba.prog) w' 33 35 i0 a Yba.underlying33 hi (by rw [hz1]; decide)
  rcases (show a3 % 3 = 0 ∨ a3 % 3 = 1 ∨ a3 % 3 = 2 by omega) with e3 | e3 | e3
  · go_enter Yba.func3, Yba.ntmps3
    go_wp2_with (go_at_call 4; refine (tr_oth _ _ _ c0 (.inl rfl)).mono ?_; rintro e w' ⟨rfl, rfl⟩)
    go_ret
    exact ⟨rfl, by repeat (first | exact Grown.refl _ | apply Grown.drew | apply Grown.alloc)⟩
  · by_cases hn : a4 % 16 = 0
    · have hmk := fun w' => run_make (P := Yba.prog) w' 26 35 i0 _ Yba.underlying26 hi hz0 .i64 .i64 0 0 (by omega) (by omega) (by rw [hz2]; omega) (by omega)
      have hd : decide ((0 : Int) < 0) = false := by decide
      go_enter Yba.func3, Yba.ntmps3
      go_wp2_with (go_at_call 4; refine (tr_oth _ _ _ c0 (.inr ⟨_, _, _, _, rfl⟩)).mono ?_; rintro e w' ⟨rfl, rfl⟩)
      go_quiet (fail)
      go_wp2
      go_ret
      exact ⟨rfl, by repeat (first | exact Grown.refl _ | apply Grown.drewN | apply Grown.drew | apply Grown.alloc)⟩
    · obtain ⟨n, hk⟩ : ∃ n : Nat, a4 % 16 = n := ⟨(a4 % 16).toNat, by omega⟩
      have hmk := fun w' => run_make (P := Yba.prog) w' 26 35 i0 _ Yba.underlying26 hi hz0 .i64 .i64 (n : Int) (n : Int) (by omega) (by omega) (by rw [hz2]; omega) (by omega)
      have hd : 0 < n := by omega
      clear hn
      go_enter Yba.func3, Yba.ntmps3
      go_wp2_with (go_at_call 4; refine (tr_oth _ _ _ c0 (.inr ⟨_, _, _, _, rfl⟩)).mono ?_; rintro e w' ⟨rfl, rfl⟩)
      go_quiet (fail)
      go_wp2
      go_ret
      exact ⟨rfl, by repeat (first | exact Grown.refl _ | apply Grown.drewN | apply Grown.drew | apply Grown.alloc)⟩
  · have hd : decide ((0 : Int) < 0) = false := by decide
    go_enter Yba.func3, Yba.ntmps3
    go_wp2_with (go_at_call 4; refine (tr_oth _ _ _ c0 (.inr ⟨_, _, _, _, rfl⟩)).mono ?_; rintro e w' ⟨rfl, rfl⟩)
    go_quiet (fail)
    go_wp2
    go_ret
    exact ⟨rfl, by repeat (first | exact Grown.refl _ | apply Grown.drewN | apply Grown.drew | apply Grown.alloc)⟩


theorem walk (a0 : Int) (a1 : Int) (a2 : Int) (a3 : Int) (a4 : Int) (w0 : (Lit.int .i64 a0).wf = true) (w1 : (Lit.int .i64 a1).wf = true) (w2 : (Lit.int .u8 a2).wf = true) (w3 : (Lit.int .u8 a3).wf = true) (w4 : (Lit.int .u8 a4).wf = true) (w : World) :
    Calls Yba.prog 3 #[.int .i64 a0, .int .i64 a1, .int .u8 a2, .int .u8 a3, .int .u8 a4] w fun e w' => e = .returned (.bool true) ∧ Grown w w' := by
  have b2 := bounds_u8 w2
  have b3 := bounds_u8 w3
  have b4 := bounds_u8 w4
  cases e2 : (a2 % 2 == 0) with
  | true =>
    cases c0 : (a0 == 1) with
    | true =>
      have h : a0 = 1 := by simpa using c0
      subst h
      exact walk_b a1 a2 a3 a4 w (by omega) (by omega) (by omega) (by omega) (by omega) (by omega) e2
    | false => exact walk_c a0 a1 a2 a3 a4 w (by omega) (by omega) (by omega) (by omega) (by omega) (by omega) e2 c0
  | false =>
    cases c1 : (a1 != 1000) with
    | true => exact walk_a a0 a1 a2 a3 a4 w (by omega) (by omega) (by omega) (by omega) (by omega) (by omega) e2 c1
    | false =>
      have h : a1 = 1000 := by simpa using c1
      subst h
      cases c0 : (a0 == 1) with
      | true =>
        have h : a0 = 1 := by simpa using c0
        subst h
        exact walk_d a2 a3 a4 w (by omega) (by omega) (by omega) (by omega) (by omega) (by omega) e2
      | false => exact walk_e a0 a2 a3 a4 w (by omega) (by omega) (by omega) (by omega) (by omega) (by omega) e2 c0

/-! ### THE ROW's STEP: WRITTEN OUT: LEAVE IT -/
set_option maxRecDepth 100000 in
theorem lifted (os : Os) (started : os.Started) (H : Type) (enc : TypeId × Value → H) :
    ReturnsInHanded {} Yba.checked os 3 .any (Rows.lawS5481BWholeSpec.pre6 enc Yba.prog Yba.f3 Rows.lawS5481BWholeRow.domain false) (Rows.lawS5481BWholeSpec.post enc Yba.prog Yba.f3 false true false false) := by
  refine returnsInHanded_of_change (C := Yba.checked) own started (by kernel_rfl) Yba.func3
    (ChangeSpec.witness6 (enc := enc) (C := Yba.checked) false ⟨#[], #[.int .i64 0, .int .i64 0, .int .u8 0, .int .u8 0, .int .u8 0], []⟩ 8 (by kernel_rfl) (by kernel_rfl) (by kernel_rfl) (by kernel_rfl)) ?_
  intro W base args ds gs before hval0 hW hcnd _
  have hval : ∀ (j : Nat) t v, Yba.f3.params[j]? = some t → args[j]? = some v → Value.okWide Yba.prog W .any base t v := hval0
  have hW' := hW
  obtain ⟨p, q, hA0, hV, rfl, hfz, hnd⟩ := hW
  have hA : DataW.TrodAll enc Yba.prog W 0 (fun _ => true) true Yba.f3.params.toList args.toList ds p := hA0
  rw [Yba.params3] at hA hval
  obtain ⟨v0, vs0, d0, ds0, p0, q0, hargs, rfl, rfl, h0, r0⟩ := trodAll_cons hA
  obtain ⟨v1, vs1, d1, ds1, p1, q1, rfl, rfl, rfl, h1, r1⟩ := trodAll_cons r0
  obtain ⟨v2, vs2, d2, ds2, p2, q2, rfl, rfl, rfl, h2, r2⟩ := trodAll_cons r1
  obtain ⟨v3, vs3, d3, ds3, p3, q3, rfl, rfl, rfl, h3, r3⟩ := trodAll_cons r2
  obtain ⟨v4, vs4, d4, ds4, p4, q4, rfl, rfl, rfl, h4, r4⟩ := trodAll_cons r3
  obtain ⟨rfl, rfl, rfl⟩ := trodAll_nil r4
  obtain rfl : args = #[v0, v1, v2, v3, v4] := by cases args; simp_all
  obtain ⟨rfl, rfl⟩ := trodVars_none hV
  obtain ⟨a0, rfl, rfl, rfl, w0⟩ := open_int Yba.underlying3 (hval 0 3 v0 rfl rfl) h0
  obtain ⟨a1, rfl, rfl, rfl, w1⟩ := open_int Yba.underlying3 (hval 1 3 v1 rfl rfl) h1
  obtain ⟨a2, rfl, rfl, rfl, w2⟩ := open_int Yba.underlying5 (hval 2 5 v2 rfl rfl) h2
  obtain ⟨a3, rfl, rfl, rfl, w3⟩ := open_int Yba.underlying5 (hval 3 5 v3 rfl rfl) h3
  obtain ⟨a4, rfl, rfl, rfl, w4⟩ := open_int Yba.underlying5 (hval 4 5 v4 rfl rfl) h4
  clear hA0 hval0
  simp only [List.append_nil] at hW'
  refine (walk a0 a1 a2 a3 a4 w0 w1 w2 w3 w4 W).mono fun e W' ⟨he, hg⟩ => ?_
  subst he
  exact ⟨_, rfl, post_of_same (pa := []) (pv := []) hW' (fun _ _ _ => (trodAll_cons_mk (shut_bool Yba.underlying4 _) trodAll_mk0)) (fun sp _ => (trodAll_cons_mk (shut_int Yba.underlying3 w0) (trodAll_cons_mk (shut_int Yba.underlying3 w1) (trodAll_cons_mk (shut_int Yba.underlying5 w2) (trodAll_cons_mk (shut_int Yba.underlying5 w3) (trodAll_cons_mk (shut_int Yba.underlying5 w4) trodAll_mk0)))))) (fun _ _ => rfl) rfl
    (hg.frame _) hg.2.1 (ok_one (by kernel_rfl) rfl (okWide_bool_mk Yba.underlying4 _))⟩

theorem over : Rows.lawS5481BWholeRow.holds Yba.pinned (OpenSpec.ofChange Rows.lawS5481BWholeSpec) :=
  OpenClaim.holds_of_wide 3 Yba.f3 rfl rfl rfl rfl rfl rfl rfl ⟨rfl, rfl, rfl, rfl, rfl⟩ rfl rfl rfl rfl rfl (by kernel_rfl) Yba.func3 (by kernel_rfl)
    (of_decide_eq_true (by kernel_rfl)) (by unfold Func.isWrapper; first | (rw [if_pos (by decide +kernel)]; kernel_rfl) | (rw [if_neg (by decide +kernel)]; exact ⟨rfl, rfl⟩))
    (fun os started H enc _ => lifted os started H enc)

/-- ████ THE STATEMENT ████ -/
theorem proved : Rows.LawS5481BWholeSaid :=
  over
#print axioms proved
end Go.Proofs.Ybulkdimi.lawS5481BWhole
