import Derived.Test.YbulkdinyG1
import Derived.Test.YbulkdinySortH
import Derived.Test.YbulkdinyF8
namespace Go.Proofs.Ybulkdiny
open Go.ChangeShapes Go.WideShapes Go.ChangeAt Go.RowKit
set_option linter.unusedVariables false

set_option maxRecDepth 100000 in
set_option maxHeartbeats 4000000 in
theorem sort_any (g n cap : Nat) (w : World) (hn0 : 0 < n) (hn : n ≤ 1048576) (h : Row w g n) :
    Calls Yba.prog 5 #[.slice (some ⟨g, 0, none⟩) n cap] w fun e w' => e = .returned (.tuple #[]) ∧ Row w' g n ∧ Kept g w w' := by
  have hbl : Lib.bitLen n ≤ 1000 := by
    have h2 := (bitLen_bd 21 n (by omega) (by omega) hn0).1
    rcases Nat.lt_or_ge (Lib.bitLen n) 1000 with h3 | h3
    · omega
    · have h4 : 2 ^ 22 ≤ 2 ^ Lib.bitLen n := Nat.pow_le_pow_right (by omega) (by omega)
      omega
  go_enter Yba.func5, Yba.ntmps5
  go_wp2_with (first | (go_at_call 16; refine (len_any n _ (by omega)).mono ?_; rintro e w1 ⟨rfl, rfl⟩) | (go_at_call 15; refine (pdq_any g n cap hn (n + 1) 0 n (Lib.bitLen n) _ (by omega) (by omega) (by omega) hbl h).mono ?_; rintro e w2 ⟨rfl, hR, hK⟩))
  (try simp only [Exit.inBlock, Exit.then]); refine bodyPost_end (results_none rfl _ _ _) rfl ?_
  exact ⟨rfl, hR, hK⟩

set_option maxRecDepth 100000 in
set_option maxHeartbeats 4000000 in
theorem eqf_any (g1 g2 n c1 c2 : Nat) (d : Nat → Nat) (w : World) (hn : n ≤ 1048576) (h1 : FRow w g1 n d) (h2 : FRow w g2 n d) (hd : ∀ i, i < n → Dur (d i)) :
    Calls Yba.prog 13 #[.slice (some ⟨g1, 0, none⟩) n c1, .slice (some ⟨g2, 0, none⟩) n c2] w fun e w' => e = .returned (.bool true) ∧ ∃ k, w' = w.drewN k := by
  go_enter Yba.func13, Yba.ntmps13
  go_wp2
  go_loopg [5, 13] n (fun k s5 s13 wr => ∃ i m : Nat, i ≤ n ∧ k = n - i ∧ s13 = .int .i64 i ∧ wr = w.drewN m)
  case atStart => exact ⟨0, 0, by omega, rfl, rfl, rfl⟩
  case round =>
    obtain ⟨i, m, hi, hk, rfl, rfl⟩ := hrel
    by_cases hin : i < n
    · have hin' : (i : Int) < (n : Int) := by omega
      have a1 : w.cell? ⟨g1, i, none⟩ = some (.float .f64 (d i)) := h1 i hin
      have a2 : w.cell? ⟨g2, i, none⟩ = some (.float .f64 (d i)) := h2 i hin
      have ho := order_self (d i)
      rw [isN_pos (hd i hin).lt] at ho
      go_wp2
      go_region
      go_wp2
      go_roundg (n - (i + 1))
      case measure => omega
      case rel => exact ⟨i + 1, _, by omega, rfl, by go_num, rfl⟩
    · have hin' : ¬ ((i : Int) < (n : Int)) := by omega
      go_wp2
      go_ret
      exact ⟨rfl, _, rfl⟩

set_option maxRecDepth 100000 in
set_option maxHeartbeats 4000000 in
theorem eqi_empty (a b : Option Addr) (c1 c2 : Nat) (w : World) :
    Calls Yba.prog 14 #[.slice a 0 c1, .slice b 0 c2] w fun e w' => e = .returned (.bool true) ∧ ∃ k, w' = w.drewN k := by
  go_enter Yba.func14, Yba.ntmps14
  go_wp2
  go_loopg [5, 13] 1 (fun k s5 s13 wr => s13 = .int .i64 0 ∧ wr = w)
  case atStart => exact ⟨rfl, rfl⟩
  case round =>
    obtain ⟨rfl, rfl⟩ := hrel
    go_wp2
    go_ret
    exact ⟨rfl, 0, rfl⟩

set_option maxRecDepth 100000 in
set_option maxHeartbeats 4000000 in
theorem eqi_any (ad bd : Addr) (n c1 c2 : Nat) (z : Nat → Int) (w : World) (hn : n ≤ 1048576) (h1 : ∀ i, i < n → w.cell? (ad.add i) = some (.int .i64 (z i))) (h2 : ∀ i, i < n → w.cell? (bd.add i) = some (.int .i64 (z i))) :
    Calls Yba.prog 14 #[.slice (some ad) n c1, .slice (some bd) n c2] w fun e w' => e = .returned (.bool true) ∧ ∃ k, w' = w.drewN k := by
  go_enter Yba.func14, Yba.ntmps14
  go_wp2
  go_loopg [5, 13] n (fun k s5 s13 wr => ∃ i m : Nat, i ≤ n ∧ k = n - i ∧ s13 = .int .i64 i ∧ wr = w.drewN m)
  case atStart => exact ⟨0, 0, by omega, rfl, rfl, rfl⟩
  case round =>
    obtain ⟨i, m, hi, hk, rfl, rfl⟩ := hrel
    by_cases hin : i < n
    · have hin' : (i : Int) < (n : Int) := by omega
      have a1 : w.cell? (ad.add i) = some (.int .i64 (z i)) := h1 i hin
      have a2 : w.cell? (bd.add i) = some (.int .i64 (z i)) := h2 i hin
      go_wp2
      go_region
      go_wp2
      go_roundg (n - (i + 1))
      case measure => omega
      case rel => exact ⟨i + 1, _, by omega, rfl, by go_num, rfl⟩
    · have hin' : ¬ ((i : Int) < (n : Int)) := by omega
      go_wp2
      go_ret
      exact ⟨rfl, _, rfl⟩

end Go.Proofs.Ybulkdiny
