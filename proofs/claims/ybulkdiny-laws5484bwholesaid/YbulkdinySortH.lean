import Derived.Test.YbulkdinySortG
import Derived.Deep.Cut
import Derived.Deep.CutRange
import Derived.Deep.LoopGhost
namespace Go.Proofs.Ybulkdiny
open Go.ChangeShapes Go.WideShapes Go.ChangeAt Go.RowKit
set_option linter.unusedVariables false

set_option maxRecDepth 1000000 in
set_option maxHeartbeats 8000000 in
theorem pdq_any (g n cap : Nat) (hn : n ≤ 1048576) : ∀ (N a b lim : Nat) (w : World), b - a < N → a ≤ b → b ≤ n → lim ≤ 1000 → Row w g n →
    Calls Yba.prog 15 #[.slice (some ⟨g, 0, none⟩) n cap, .int .i64 a, .int .i64 b, .int .i64 lim] w fun e w' => e = .returned (.tuple #[]) ∧ Row w' g n ∧ Kept g w w' := by
  intro N
  induction N with
  | zero => intro _ _ _ _ h; exact absurd h (Nat.not_lt_zero _)
  | succ N ih =>
    intro a b limit w hN hab hb hlimit h
    go_enter Yba.func15, Yba.ntmps15
    go_wp2
    go_loopg [1, 2, 3, 8, 9] (b - a) (fun k s1 s2 s3 s8 s9 wr => ∃ (a' b' lim : Nat) (wb wp : Bool), s1 = .int .i64 a' ∧ s2 = .int .i64 b' ∧ s3 = .int .i64 lim ∧ s8 = .bool wb ∧ s9 = .bool wp ∧
      a' ≤ b' ∧ b' ≤ n ∧ b' - a' ≤ k ∧ k ≤ b - a ∧ lim ≤ 1000 ∧ Row wr g n ∧ Kept g w wr)
    case atStart => exact ⟨a, b, limit, true, true, rfl, rfl, rfl, rfl, rfl, hab, hb, Nat.le_refl _, Nat.le_refl _, hlimit, h, Kept.refl g w⟩
    case round =>
      obtain ⟨a', b', lim, wb, wp, rfl, rfl, rfl, rfl, rfl, hab', hb', hk, hkN, hlim, hR, hK⟩ := hrel
      by_cases h12 : b' - a' ≤ 12
      · have h12z : (b' : Int) - (a' : Int) ≤ 12 := by omega
        go_wp2_with (go_at_call 22; refine (ins_any g n cap a' b' _ hn hab' hb' hR).mono ?_; rintro e w1 ⟨rfl, hR1, hK1⟩)
        (try simp only [Exit.inBlock, Exit.then]); refine bodyPost_ret (results_none rfl _ _ _) rfl ?_
        exact ⟨rfl, hR1, hK.trans hK1⟩
      · have h12z : ¬ ((b' : Int) - (a' : Int) ≤ 12) := by omega
        have hab2 : a' + 12 < b' := by omega
        by_cases hl0 : lim = 0
        · subst hl0
          go_wp2_with (go_at_call 23; refine (heap_any g n cap a' b' _ hn (by omega) hb' hR).mono ?_; rintro e w1 ⟨rfl, hR1, hK1⟩)
          (try simp only [Exit.inBlock, Exit.then]); refine bodyPost_ret (results_none rfl _ _ _) rfl ?_
          exact ⟨rfl, hR1, hK.trans hK1⟩
        · have hl0z : ¬ ((lim : Int) = 0) := by omega
          go_upto_if 35 with fail
          go_cut [3] from 19 (fun s3 wc => ∃ lm : Nat, lm ≤ 1000 ∧ s3 = .int .i64 lm ∧ Row wc g n ∧ Kept g w wc)
          case first =>
            cases wb
            · go_wp2_with (go_at_call 24; refine (brk_any g n cap a' b' _ hn hab2 hb' hR).mono ?_; rintro e w1 ⟨rfl, hR1, hK1⟩)
              go_meet
              case rel =>
                refine ⟨lim - 1, by omega, ?_, hR1, hK.trans hK1⟩
                congr 1
                omega
            · go_wp2_with fail
              go_meet
              case rel => exact ⟨lim, hlim, rfl, hR, hK⟩
          case rest =>
            clear hR hK hlim hl0 hl0z
            obtain ⟨lm, hlm, rfl, hR, hK⟩ := hcut
            go_upto_if 50 with (go_at_call 25; refine (pivot_any g n cap a' b' _ hn hab2 hb' hR).mono ?_; rintro e w2 ⟨⟨p, t, hp1, hp2, ht, rfl⟩, hR2, hK2⟩)
            go_cut [11, 12] from 19 (fun s11 s12 wc => ∃ (p : Nat) (t : Int), a' ≤ p ∧ p < b' ∧ (t = 0 ∨ t = 1 ∨ t = 2) ∧ s11 = .int .i64 p ∧ s12 = .int .i64 t ∧ Row wc g n ∧ Kept g w wc)
            case first =>
              rcases ht with rfl | rfl | rfl
              · go_wp2_with fail
                go_meet
                case rel => exact ⟨p, 0, hp1, hp2, by omega, rfl, rfl, hR2, hK.trans hK2⟩
              · go_wp2_with fail
                go_meet
                case rel => exact ⟨p, 1, hp1, hp2, by omega, rfl, rfl, hR2, hK.trans hK2⟩
              · go_wp2_with (go_at_call 26; refine (rev_any g n cap a' b' _ hn (by omega) hb' hR2).mono ?_; rintro e w3 ⟨rfl, hR3, hK3⟩)
                go_meet
                case rel =>
                  refine ⟨b' - 1 - (p - a'), 1, by omega, by omega, by omega, ?_, rfl, hR3, (hK.trans hK2).trans hK3⟩
                  congr 1
                  omega
            case rest =>
              clear hR hK hp1 hp2 ht hR2 hK2
              obtain ⟨p, t, hp1, hp2, ht, rfl, rfl, hR, hK⟩ := hcut
              go_upto_region 15 with fail
              go_cut [12, 68] from 19 (fun s12 s68 wx => (∃ c : Bool, s68 = .bool c) ∧ Row wx g n ∧ Kept g w wx)
              case first =>
                rcases ht with rfl | rfl | rfl <;> cases wb <;> cases wp <;>
                  (go_wp2_with fail
                   go_meet
                   exact ⟨⟨_, rfl⟩, hR, hK⟩)
              case rest =>
                clear hR hK
                obtain ⟨⟨c, rfl⟩, hR, hK⟩ := hcut
                go_upto_if 68 with fail
                go_cut [] from 19 (fun wx => Row wx g n ∧ Kept g w wx)
                case first =>
                  cases c
                  · go_wp2_with fail
                    go_meet
                    case rel => exact ⟨hR, hK⟩
                  · go_wp2_with (go_at_call 27; refine (pis_any g n cap a' b' _ hn hab2 hb' hR).mono ?_; rintro e w4 ⟨⟨r, rfl⟩, hR4, hK4⟩; cases r)
                    all_goals first
                      | (go_meet; exact ⟨hR4, hK.trans hK4⟩)
                      | ((try simp only [Exit.inBlock, Exit.then]); refine bodyPost_ret (results_none rfl _ _ _) rfl ?_
                         exact ⟨rfl, hR4, hK.trans hK4⟩)
                case rest =>
                  clear hR hK
                  obtain ⟨hR, hK⟩ := hcut
                  go_upto_region 17 with fail
                  go_cut [87] from 19 (fun s87 wx => (∃ c : Bool, s87 = .bool c) ∧ Row wx g n ∧ Kept g w wx)
                  case first =>
                    obtain ⟨y, hy, cy⟩ := hR.cell (i := p) (by omega)
                    have c1 : p < n := by omega
                    rcases Nat.eq_zero_or_pos a' with ha0 | ha0
                    · have ha0z : decide ((a' : Int) > 0) = false := decide_eq_false (by omega)
                      go_quiet ((go_at_call 28; first | exact Calls.quiet_of_same (less_any _ _ _) | exact less_q _ _ _ _ _))
                      go_wp2_with fail
                      go_meet
                      case rel => exact ⟨⟨_, rfl⟩, hR.drewN _, hK.drewN _⟩
                    · have ha0z : (a' : Int) > 0 := by omega
                      obtain ⟨q, eq⟩ : ∃ q : Nat, (a' : Int) - 1 = (q : Int) := ⟨a' - 1, by omega⟩
                      have wq := wr64 (q : Int) q rfl (by omega)
                      obtain ⟨x, hx, cx⟩ := hR.cell (i := q) (by omega)
                      have c2 : q < n := by omega
                      go_quiet ((go_at_call 28; first | exact Calls.quiet_of_same (less_any _ _ _) | exact less_q _ _ _ _ _))
                      go_wp2_with fail
                      go_meet
                      case rel => exact ⟨⟨_, rfl⟩, hR.drewN _, hK.drewN _⟩
                  case rest =>
                    clear hR hK
                    obtain ⟨⟨c, rfl⟩, hR, hK⟩ := hcut
                    cases c
                    · go_upto_if 113 with (go_at_call 30; refine (part_any g n cap a' b' p _ hn hab2 hb' ⟨hp1, hp2⟩ hR).mono ?_; rintro e w7 ⟨⟨mid, ap, r1, r2, rfl⟩, hR7, hK7⟩)
                      by_cases h4 : mid - a' < b' - mid
                      · have h4z : (mid : Int) - (a' : Int) < (b' : Int) - (mid : Int) := by omega
                        go_wp2_with (go_at_call 15; refine (ih a' mid lm _ (by omega) (by omega) (by omega) hlm hR7).mono ?_; rintro e w8 ⟨rfl, hR8, hK8⟩)
                        go_roundg (b' - (mid + 1))
                        case measure => omega
                        case rel => exact ⟨mid + 1, b', lm, _, ap, by simp, rfl, rfl, rfl, rfl, by omega, by omega, Nat.le_refl _, by omega, hlm, hR8, (hK.trans hK7).trans hK8⟩
                      · have h4z : ¬ ((mid : Int) - (a' : Int) < (b' : Int) - (mid : Int)) := by omega
                        go_wp2_with (go_at_call 15; refine (ih (mid + 1) b' lm _ (by omega) (by omega) (by omega) hlm hR7).mono ?_; rintro e w8 ⟨rfl, hR8, hK8⟩)
                        go_roundg (mid - a')
                        case measure => omega
                        case rel => exact ⟨a', mid, lm, _, ap, rfl, rfl, rfl, rfl, rfl, by omega, by omega, Nat.le_refl _, by omega, hlm, hR8, (hK.trans hK7).trans hK8⟩
                    · go_wp2_with (go_at_call 29; refine (peq_any g n cap a' b' p _ hn hab2 hb' ⟨hp1, hp2⟩ hR).mono ?_; rintro e w7 ⟨⟨mid, r1, r2, rfl⟩, hR7, hK7⟩)
                      go_roundg (b' - mid)
                      case measure => omega
                      case rel => exact ⟨mid, b', lm, wb, wp, rfl, rfl, rfl, rfl, rfl, by omega, by omega, Nat.le_refl _, by omega, hlm, hR7, hK.trans hK7⟩

end Go.Proofs.Ybulkdiny
