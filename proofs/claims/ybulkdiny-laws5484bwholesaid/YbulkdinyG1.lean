import Derived.Test.YbulkdinySortKit
import Derived.ArgAppend
namespace Go.Proofs.Ybulkdiny
open Go.ChangeShapes Go.WideShapes Go.ChangeAt Go.RowKit
set_option linter.unusedVariables false

theorem run_eql_nil {P : Program} (w : World) (t e : TypeId) (a : Option Addr) (l c : Nat) (h : P.underlying t = some (.slice e)) : (binOp .eql t (.slice a l c) (.slice none 0 0)).run P w = .ok (.bool a.isNone) w := by
  simp only [binOp]
  simp [run_equal_slice_nil w t e a l c h]

theorem inf25 : (Yba.prog.info? 25).map (fun i => (i.zero, i.size, i.bytes)) = some (some (.int .u32 0), 1, 4) := by kernel_rfl
theorem inf27 : (Yba.prog.info? 27).map (fun i => (i.zero, i.size, i.bytes)) = some (some (.float .f64 0), 1, 8) := by kernel_rfl
theorem inf3 : (Yba.prog.info? 3).map (fun i => (i.zero, i.size, i.bytes)) = some (some (.int .i64 0), 1, 8) := by kernel_rfl
theorem und22 : Yba.prog.underlying 22 = some (.slice 25) := by kernel_rfl
theorem und29 : Yba.prog.underlying 29 = some (.slice 27) := by kernel_rfl
theorem und23 : Yba.prog.underlying 23 = some (.slice 3) := by kernel_rfl

theorem cell_lt {w : World} {a : Addr} {u : Value} (h : w.cell? a = some u) : a.block < w.heap.size := by
  rcases Nat.lt_or_ge a.block w.heap.size with h' | h'
  · exact h'
  · have : w.heap[a.block]? = none := by simp [h']
    simp [World.cell?, this] at h

theorem cell_alloc {w : World} {a : Addr} {u : Value} (o : Obj) (h : w.cell? a = some u) : (w.alloc o).cell? a = some u :=
  (World.cell?_of_block (Below.heap_alloc w o _ (cell_lt h))).trans h

theorem grown_alloc (w : World) (o : Obj) : w.grownBy (w.alloc o) none := ⟨rfl, rfl, rfl, by simp, fun k hk _ => Below.heap_alloc w o k hk⟩

theorem grown_trans {a b c : World} (h : a.grownBy b none) (k : b.grownBy c none) : a.grownBy c none :=
  ⟨k.os.trans h.os, k.tape.trans h.tape, k.output.trans h.output, Nat.le_trans h.size k.size, fun i hi hr => (k.block i (Nat.lt_of_lt_of_le hi h.size) hr).trans (h.block i hi hr)⟩

set_option maxRecDepth 100000 in
set_option maxHeartbeats 4000000 in
theorem clone4 (ad : Addr) (m c : Nat) (news : List Value) (w : World) (hm : 0 < m) (hm2 : m ≤ 1048576) (hn : news.length = m) (hc : ∀ j u, news[j]? = some u → w.cell? (ad.add j) = some u) (h1 : ∀ u ∈ news, u.oneCell' = true) :
    Calls Yba.prog 4 #[.slice (some ad) m c] w fun e w' => ∃ g cap cur, e = .returned (.slice (some ⟨g, 0, none⟩) m cap) ∧ w.heap.size ≤ g ∧ w'.heap[g]? = some (.cells cur 25 (0, 0)) ∧ m ≤ cur.size ∧ cur.toList.take m = news ∧ w.grownBy w' none := by
  obtain ⟨i0, hi, hz0, hz1, hz2⟩ := info_parts inf25
  have hq := run_eql_nil (P := Yba.prog) w 22 25 (some ad) m c und22
  go_enter Yba.func4, Yba.ntmps4
  go_wp2_with (at_builtin; refine wpList_append_grows _ rfl (.tmp 5) (.tmp 6) 22 rfl 25 i0 (.int .u32 0) 1 4 und22 hi hz0 hz1 hz2 rfl (by decide) (some ⟨w.heap.size, 0, none⟩) 0 0 [] rfl (fun h => by cases h) rfl (by intro _ _ _ _ h; simp at h) ad m c news rfl (by simpa using hn) (fun j u h => cell_alloc _ (hc j u h)) h1 (by omega) (by unfold maxLen; omega) (by omega) ?grow)
  case grow =>
    intro v' w' hown hgr
    obtain ⟨hl, h0 | ⟨g, cap, cur, rfl, hg, hb, hcap, hcm, hsz, htk⟩⟩ := hown
    · omega
    · skip
      go_wp2
      go_ret
      exact ⟨g, cap, cur, rfl, by omega, hb, by omega, by simpa using htk, grown_trans (grown_alloc w _) hgr⟩

set_option maxRecDepth 100000 in
set_option maxHeartbeats 4000000 in
theorem clone7 (ad : Addr) (m c : Nat) (news : List Value) (w : World) (hm : 0 < m) (hm2 : m ≤ 1048576) (hn : news.length = m) (hc : ∀ j u, news[j]? = some u → w.cell? (ad.add j) = some u) (h1 : ∀ u ∈ news, u.oneCell' = true) :
    Calls Yba.prog 7 #[.slice (some ad) m c] w fun e w' => ∃ g cap cur, e = .returned (.slice (some ⟨g, 0, none⟩) m cap) ∧ w.heap.size ≤ g ∧ w'.heap[g]? = some (.cells cur 27 (0, 0)) ∧ m ≤ cur.size ∧ cur.toList.take m = news ∧ w.grownBy w' none := by
  obtain ⟨i0, hi, hz0, hz1, hz2⟩ := info_parts inf27
  have hq := run_eql_nil (P := Yba.prog) w 29 27 (some ad) m c und29
  go_enter Yba.func7, Yba.ntmps7
  go_wp2_with (at_builtin; refine wpList_append_grows _ rfl (.tmp 5) (.tmp 6) 29 rfl 27 i0 (.float .f64 0) 1 8 und29 hi hz0 hz1 hz2 rfl (by decide) (some ⟨w.heap.size, 0, none⟩) 0 0 [] rfl (fun h => by cases h) rfl (by intro _ _ _ _ h; simp at h) ad m c news rfl (by simpa using hn) (fun j u h => cell_alloc _ (hc j u h)) h1 (by omega) (by unfold maxLen; omega) (by omega) ?grow)
  case grow =>
    intro v' w' hown hgr
    obtain ⟨hl, h0 | ⟨g, cap, cur, rfl, hg, hb, hcap, hcm, hsz, htk⟩⟩ := hown
    · omega
    · skip
      go_wp2
      go_ret
      exact ⟨g, cap, cur, rfl, by omega, hb, by omega, by simpa using htk, grown_trans (grown_alloc w _) hgr⟩

set_option maxRecDepth 100000 in
set_option maxHeartbeats 4000000 in
theorem clone8 (ad : Addr) (m c : Nat) (news : List Value) (w : World) (hm : 0 < m) (hm2 : m ≤ 1048576) (hn : news.length = m) (hc : ∀ j u, news[j]? = some u → w.cell? (ad.add j) = some u) (h1 : ∀ u ∈ news, u.oneCell' = true) :
    Calls Yba.prog 8 #[.slice (some ad) m c] w fun e w' => ∃ g cap cur, e = .returned (.slice (some ⟨g, 0, none⟩) m cap) ∧ w.heap.size ≤ g ∧ w'.heap[g]? = some (.cells cur 3 (0, 0)) ∧ m ≤ cur.size ∧ cur.toList.take m = news ∧ w.grownBy w' none := by
  obtain ⟨i0, hi, hz0, hz1, hz2⟩ := info_parts inf3
  have hq := run_eql_nil (P := Yba.prog) w 23 3 (some ad) m c und23
  go_enter Yba.func8, Yba.ntmps8
  go_wp2_with (at_builtin; refine wpList_append_grows _ rfl (.tmp 5) (.tmp 6) 23 rfl 3 i0 (.int .i64 0) 1 8 und23 hi hz0 hz1 hz2 rfl (by decide) (some ⟨w.heap.size, 0, none⟩) 0 0 [] rfl (fun h => by cases h) rfl (by intro _ _ _ _ h; simp at h) ad m c news rfl (by simpa using hn) (fun j u h => cell_alloc _ (hc j u h)) h1 (by omega) (by unfold maxLen; omega) (by omega) ?grow)
  case grow =>
    intro v' w' hown hgr
    obtain ⟨hl, h0 | ⟨g, cap, cur, rfl, hg, hb, hcap, hcm, hsz, htk⟩⟩ := hown
    · omega
    · skip
      go_wp2
      go_ret
      exact ⟨g, cap, cur, rfl, by omega, hb, by omega, by simpa using htk, grown_trans (grown_alloc w _) hgr⟩


set_option maxRecDepth 100000 in
set_option maxHeartbeats 4000000 in
theorem clone8_nil (w : World) : Calls Yba.prog 8 #[.slice none 0 0] w fun e w' => e = .returned (.slice none 0 0) ∧ w' = w := by
  have hq := run_eql_nil (P := Yba.prog) w 23 3 none 0 0 und23
  go_enter Yba.func8, Yba.ntmps8
  go_wp2
  go_ret
  exact ⟨rfl, rfl⟩

set_option maxRecDepth 100000 in
set_option maxHeartbeats 4000000 in
theorem clone8_empty (ad : Addr) (c : Nat) (w : World) : Calls Yba.prog 8 #[.slice (some ad) 0 c] w fun e w' => (∃ g, e = .returned (.slice (some g) 0 0)) ∧ w.grownBy w' none := by
  have hq := run_eql_nil (P := Yba.prog) w 23 3 (some ad) 0 c und23
  go_enter Yba.func8, Yba.ntmps8
  go_wp2
  go_ret
  exact ⟨⟨_, rfl⟩, grown_alloc w _⟩

end Go.Proofs.Ybulkdiny
