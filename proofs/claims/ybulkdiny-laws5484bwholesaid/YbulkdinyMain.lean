import Derived.Test.YbulkdinyG3
import Derived.Deep.Cut
import Derived.Deep.CutRange
namespace Go.Proofs.Ybulkdiny
open Go.ChangeShapes Go.WideShapes Go.ChangeAt Go.RowKit
set_option linter.unusedVariables false

set_option maxRecDepth 100000 in
set_option maxHeartbeats 8000000 in
theorem main (ad : Addr) (n c0 : Nat) (z : Nat → Int) (a1 : Int) (a2 : Option Addr) (len2 cap2 : Nat) (w : World) (hn0 : 0 < n) (hn : n + len2 ≤ 1048576)
    (hc : ∀ i, i < n → w.cell? (ad.add i) = some (.int .u32 (z i))) (hz : ∀ i, i < n → IsU (z i)) (ha1 : 0 ≤ a1 ∧ a1 ≤ 255)
    (hI : ∀ w', Below w.heap.size w w' → IntsOk w' a2 len2 cap2) :
    Calls Yba.prog 3 #[.slice (some ad) n c0, .int .u8 a1, .slice a2 len2 cap2] w fun e w' => e = .returned (.bool true) ∧ Below w.heap.size w w' := by
  have hcl := clone4 ad n c0 ((List.range n).map fun i => .int .u32 (z i)) w hn0 (by omega) (by simp) (by
    intro j u h
    by_cases hj : j < n
    · simp [hj] at h; subst h; exact hc j hj
    · simp [hj] at h) (by
    intro u hu; simp at hu; obtain ⟨i, _, rfl⟩ := hu; rfl)
  have hmk := run_make_row' (P := Yba.prog) 29 27 (.float .f64 0) 8 und29 inf27 rfl .i64 .i64 n (by omega) (by omega)
  have hn' : decide ((1048576 : Int) < (n : Int) + (len2 : Int)) = false := decide_eq_false (by omega)
  have hn0' : ((n : Int) == 0) = false := beq_eq_false_iff_ne.2 (by omega)
  obtain ⟨P, hP⟩ : ∃ P : Nat, a1 % 64 - 32 + 1023 = (P : Int) := ⟨(a1 % 64 - 32 + 1023).toNat, by omega⟩
  have hP1 : 940 ≤ P ∧ P ≤ 1100 := by omega
  go_enter Yba.func3, Yba.ntmps3
  go_wp2_with (first | (go_at_call 4; refine hcl.mono ?_; rintro e w1 ⟨g1, cap1, cur1, rfl, hg1, hb1, hs1, ht1, hgr1⟩) | (go_at_call 5; have hR1 := Row.of_clone hb1 hs1 ht1 hz; refine (sort_any g1 n cap1 _ hn0 (by omega) hR1).mono ?_; rintro e w2 ⟨rfl, hR2, hK2⟩) | (go_at_call 6; refine (Ldexp_any _ P _ (by omega) (by omega) (by omega)).mono ?_; rintro e w3 ⟨rfl, rfl⟩))
  have hw3 : w.heap.size ≤ w3.heap.size := Nat.le_trans hgr1.size hK2.size
  have hB3 : Below w.heap.size w w3 := ((Below.refl _ w).grown hgr1 (Nat.le_refl _) (by intro k h; cases h)).grown hK2 hgr1.size (by intro k h; cases h; exact hg1)
  obtain ⟨f, hf⟩ : ∃ f, pw P = f := ⟨_, rfl⟩
  rw [hf]
  obtain ⟨g2, hg2⟩ : ∃ g2, w3.heap.size = g2 := ⟨_, rfl⟩
  rw [hg2]
  have hne : g1 ≠ g2 := by have := hR2.lt; omega
  go_loopg [10, 11, 49] n (fun k s10 s11 s49 wr => ∃ i : Nat, i ≤ n ∧ k = n - i ∧ s49 = .int .i64 i ∧ Row wr g1 n ∧ DRow wr g2 n ∧ Below w.heap.size w wr)
  case atStart => exact ⟨0, by omega, rfl, rfl, hR2.alloc _, hg2 ▸ DRow.new w3 n, hB3.alloc hw3 _⟩
  case round =>
    obtain ⟨i, hi, hk, rfl, hR, hD, hB⟩ := hrel
    by_cases hin : i < n
    · have hin' : (i : Int) < (n : Int) := by omega
      obtain ⟨zv, hzv, cz⟩ := hR.cell hin
      obtain ⟨v, rfl⟩ := Int.eq_ofNat_of_zero_le hzv.1
      obtain ⟨x, hx, hdx⟩ := mul_dur v P (by have := hzv.2; omega) hP1.1 hP1.2
      rw [hf] at hx
      have hr := fun t w' => run_float_arith (P := Yba.prog) w' .mul t .f64 (floatOfInt .f64 (v : Int)) f x hx
      obtain ⟨y, _, cy⟩ := hD.cell hin
      have fy := hD.frozen i
      have hst : (store ⟨g2, i, none⟩ (.float .f64 x)).run Yba.prog wr = .ok () (wr.setCell ⟨g2, i, none⟩ (.float .f64 x)) := by
        rw [run_store _ _ _ _ _ rfl, cy, fy]; rfl
      go_wp2
      go_roundg (n - (i + 1))
      case measure => omega
      case rel => exact ⟨i + 1, by omega, rfl, by go_num, hR.setOther (by simpa using hne) _, hD.set i hdx, hB.setCell (by simp; omega) _⟩
    · have hin' : ¬ ((i : Int) < (n : Int)) := by omega
      obtain ⟨d, hF, hdur⟩ := hD.fn
      have hcl7 := clone7 ⟨g2, 0, none⟩ n n ((List.range n).map fun i => .float .f64 (d i)) wr hn0 (by omega) (by simp) (by
        intro j u h
        by_cases hj : j < n
        · simp [hj] at h; subst h; rw [Addr.add_lit, Nat.zero_add]; exact hF j hj
        · simp [hj] at h) (by
        intro u hu; simp at hu; obtain ⟨i, _, rfl⟩ := hu; rfl)
      go_upto_region 16 with (first | (go_at_call 7; refine hcl7.mono ?_; rintro e w5 ⟨g3, cap3, cur3, rfl, hg3, hb3, hs3, ht3, hgr5⟩) | (go_at_call 8; have hB5 := hB.grown hgr5 hB.size (by intro k h; cases h); refine (hI _ hB5).mono ?_; rintro e w6 ⟨b2, c2, rfl, hb2, hgr6, heq6⟩))
      have hB6 : Below w.heap.size w w6 := hB5.grown hgr6 hB5.size (by intro k h; cases h)
      have hF2 : FRow w6 g2 n d := hF.of_block ((hgr6.block g2 (Nat.lt_of_lt_of_le hD.lt hgr5.size) (by intro h; cases h)).trans (hgr5.block g2 hD.lt (by intro h; cases h)))
      have hlt3 : g3 < w5.heap.size := (Array.getElem?_eq_some_iff.1 hb3).1
      have hF3 : FRow w6 g3 n d := (FRow.of_clone hb3 hs3 ht3).of_block (hgr6.block g3 hlt3 (by intro h; cases h))
      have hlt2 : g2 < w6.heap.size := Nat.lt_of_lt_of_le (Nat.lt_of_lt_of_le hD.lt hgr5.size) hgr6.size
      have hlt3' : g3 < w6.heap.size := Nat.lt_of_lt_of_le hlt3 hgr6.size
      obtain ⟨W, hW⟩ : ∃ W, w6.alloc (Obj.cells #[Value.slice (some ⟨g2, 0, none⟩) n n, Value.slice b2 len2 c2] 34) = W := ⟨_, rfl⟩
      have hBW : Below w.heap.size w W := hW ▸ hB6.alloc hB6.size _
      have hF2W : FRow W g2 n d := hW ▸ hF2.of_block (Below.heap_alloc _ _ _ hlt2)
      have hF3W : FRow W g3 n d := hW ▸ hF3.of_block (Below.heap_alloc _ _ _ hlt3')
      obtain ⟨bx, hbx⟩ : ∃ bx, w6.heap.size = bx := ⟨_, rfl⟩
      have hblk : W.heap[bx]? = some (Obj.cells #[Value.slice (some ⟨g2, 0, none⟩) n n, Value.slice b2 len2 c2] 34) := by rw [← hW, ← hbx]; exact Deep.blk_alloc_new _ _
      have cb0 : W.cell? ⟨bx, 0, none⟩ = some (.slice (some ⟨g2, 0, none⟩) n n) := by simp [World.cell?, hblk]
      have cb1 : W.cell? ⟨bx, 1, none⟩ = some (.slice b2 len2 c2) := by simp [World.cell?, hblk]
      have heqW : ∀ m, Calls Yba.prog 14 #[.slice b2 len2 c2, .slice a2 len2 cap2] (W.drewN m) fun e w4 => e = .returned (.bool true) ∧ ∃ k, w4 = (W.drewN m).drewN k :=
        fun m => heq6 _ fun k hk => by show W.heap[k]? = _; rw [← hW]; exact Below.heap_alloc _ _ _ hk
      rw [hW, hbx]
      have hDl := hdur (n - 1) (by omega)
      have hdev := dev_any bx g2 n n d W hn0 (by omega) cb0 hF2W hDl
      have hone := fun h : n = 1 => dev_one (d := d) (hdur 0 (by omega))
      clear hW hF hD hR hB heq6 hF2 hF3 hb3 hs3 ht3 hgr5 hgr6 hb1 hs1 ht1 hgr1 hR1 hR2 hK2 hB3 hB5 hB6 hcl hcl7 hI hblk hc hz
      obtain ⟨p, ep⟩ : ∃ p : Nat, (n : Int) - 1 = (p : Int) := ⟨n - 1, by omega⟩
      have hp : n - 1 = p := by omega
      have hpn : p < n := by omega
      have wp := wr64 (p : Int) p rfl (by omega)
      have cp3 : W.cell? ⟨g3, p, none⟩ = some (.float .f64 (d p)) := hF3W p hpn
      have q1 := fa_add
      have q2 := fa_sub
      have q3 := fa_mul
      have q4 := fa_quo
      rw [hp] at hdev hDl
      go_wp2_with (first | (go_at_call 9; refine hdev.mono ?_; rintro e w7 ⟨⟨got, rfl, hgot⟩, k7, rfl⟩) | (go_at_call 10; refine (zzscale_any _ _ hDl).mono ?_; rintro e w8 ⟨rfl, rfl⟩))
      obtain ⟨s, hs⟩ : ∃ s, pw (sce (d p)) = s := ⟨_, rfl⟩
      rw [hs] at hgot ⊢
      have hone' : n = 1 → devF s d n = none := by
        intro h1
        have e0 : p = 0 := by omega
        rw [← hs, e0, h1]
        exact hone h1
      have hsub : fop .sub (some (floatOfInt .f64 (n : Int))) (some 4607182418800017408) = some (floatOfInt .f64 ((n - 1 : Nat) : Int)) := by
        rw [fop_sub, hp, show n = p + 1 by omega]
        exact sub_one p (by omega)
      clear hs hone hdev cp3 ep wp hmk hn0' hn'
      go_loopg [17, 19, 83] n (fun k s17 s19 s83 wr => ∃ (i acc m : Nat), i ≤ n ∧ k = n - i ∧ s17 = .float .f64 acc ∧ s83 = .int .i64 i ∧ Rep (sumF s d i) acc ∧ wr = W.drewN m)
      case atStart => exact ⟨0, 0, _, by omega, rfl, rfl, rfl, rfl, rfl⟩
      case round =>
        obtain ⟨i, acc, m, hi2, hk2, rfl, rfl, hrep, rfl⟩ := hrel
        by_cases hin2 : i < n
        · have hin2' : (i : Int) < (n : Int) := by omega
          have ci : W.cell? ⟨g3, i, none⟩ = some (.float .f64 (d i)) := hF3W i hin2
          go_wp2
          go_roundg (n - (i + 1))
          case measure => omega
          case rel => exact ⟨i + 1, _, _, by omega, rfl, rfl, by go_num, Rep.op .add hrep (Rep.op .quo (a := some (d i)) (b := some s) rfl rfl _) _, rfl⟩
        · have hin2' : ¬ ((i : Int) < (n : Int)) := by omega
          obtain rfl : n = i := by omega
          obtain ⟨mm, hmm⟩ : ∃ mm, fop .quo (meanF s d n) (some s) = mm := ⟨_, rfl⟩
          go_upto_region 25 with fail
          go_cut [20] from 26 (fun s20 wx => ∃ (mr m : Nat), s20 = .float .f64 mr ∧ Rep mm mr ∧ wx = W.drewN m)
          case first =>
            go_wp2
            go_meet
            case rel => exact ⟨_, _, rfl, hmm ▸ Rep.op .quo (Rep.op .mul (Rep.op .quo hrep (b := some _) rfl _) (b := some s) rfl _) (b := some s) rfl _, rfl⟩
          case rest =>
            obtain ⟨mr, m3, rfl, hmr, rfl⟩ := hcut
            go_wp2
            clear hrep
            go_loopg [21, 23, 24, 102] n (fun k s21 s23 s24 s102 wr => ∃ (i acc m : Nat), i ≤ n ∧ k = n - i ∧ s21 = .float .f64 acc ∧ s102 = .int .i64 i ∧ Rep (sqF s mm d i) acc ∧ wr = W.drewN m)
            case atStart => exact ⟨0, 0, _, by omega, rfl, rfl, rfl, rfl, rfl⟩
            case round =>
              obtain ⟨i, acc3, m, hi3, hk3, rfl, rfl, hrep, rfl⟩ := hrel
              by_cases hin3 : i < n
              · have hin3' : (i : Int) < (n : Int) := by omega
                have ci : W.cell? ⟨g3, i, none⟩ = some (.float .f64 (d i)) := hF3W i hin3
                go_wp2
                go_roundg (n - (i + 1))
                case measure => omega
                case rel =>
                  have r1 := fun w' => Rep.op .quo (a := some (d i)) (x := d i) (b := some s) (y := s) rfl rfl w'
                  have r2 := fun w' w3 => Rep.op .sub (r1 w') hmr w3
                  exact ⟨i + 1, _, _, by omega, rfl, rfl, by go_num, Rep.op .add hrep (Rep.op .mul (r2 _ _) (r2 _ _) _) _, rfl⟩
              · have hin3' : ¬ ((i : Int) < (n : Int)) := by omega
                obtain rfl : n = i := by omega
                go_upto_region 33 with fail
                go_cut [25] from 26 (fun s25 wx => ∃ (want m : Nat), s25 = .float .f64 want ∧ Rep (devF s d n) want ∧ wx = W.drewN m)
                case first =>
                  go_wp2_with (go_at_call 11; refine (sqrt_any _ _).mono ?_; rintro e w1 ⟨rfl, rfl⟩)
                  go_meet
                  case rel =>
                    refine ⟨_, _, rfl, ?_, rfl⟩
                    unfold devF
                    rw [hmm, ← hsub]
                    exact Rep.op .mul (Rep.sq (Rep.op .quo hrep (Rep.op .sub (a := some _) (b := some _) rfl rfl _) _) _) (b := some s) rfl _
                case rest =>
                  obtain ⟨want, m4, rfl, hwant, rfl⟩ := hcut
                  clear hrep hsub hmm hmr q1 q2 q3 q4
                  obtain ⟨o, ho⟩ : ∃ o, devF s d n = o := ⟨_, rfl⟩
                  rw [ho] at hgot hwant hone'
                  have hq1 := fun w' => run_eql_nil (P := Yba.prog) w' 23 3 b2 len2 c2 und23
                  have hq2 := fun w' => run_eql_nil (P := Yba.prog) w' 23 3 a2 len2 cap2 und23
                  simp only [hb2] at hq1
                  have hcase : (isN want = true ∧ isN got = true) ∨ (isN want = false ∧ got = want ∧ n ≠ 1) := by
                    cases o with
                    | none => exact .inl ⟨hwant, hgot⟩
                    | some b =>
                      have e1 : got = b := hgot
                      have e2 : want = b := hwant
                      cases hnb : isN want with
                      | true => exact .inl ⟨rfl, by rw [e1, ← e2]; exact hnb⟩
                      | false => exact .inr ⟨rfl, by rw [e1, e2], fun h1 => by cases hone' h1⟩
                  have hn1 : ((n : Int) == 1) = decide (n = 1) := by
                    by_cases h : n = 1
                    · simp [h]
                    · rw [decide_eq_false h]; exact beq_eq_false_iff_ne.2 (by omega)
                  clear ho hone' hgot hwant hin3 hin3' hk3 hi3 hin2 hin2' hk2 hi2 hin hin' hk hi hp hpn hDl hP hP1 hf hg2 hne hw3 hg1 hg3 hlt3 hlt2 hlt3' hbx ha1
                  obtain ⟨c1, hc1⟩ : ∃ c1, decide (n = 1) = c1 := ⟨_, rfl⟩
                  rw [hc1] at hn1
                  rcases hcase with ⟨hw1, hg1⟩ | ⟨hw1, hgw, hne1⟩
                  · clear hc1
                    cases c1 <;> cases hn2 : a2.isNone <;>
                      (go_wp2_with (first | (go_at_call 12; refine (isnan_any _ _).mono ?_; rintro e w1 ⟨rfl, rfl⟩) | (go_at_call 13; refine (eqf_any g2 g3 n n cap3 d _ (by omega) (hF2W.drewN _) (hF3W.drewN _) hdur).mono ?_; rintro e w1 ⟨rfl, k9, rfl⟩) | (go_at_call 14; refine (heqW _).mono ?_; rintro e w1 ⟨rfl, k10, rfl⟩))
                       go_ret
                       exact ⟨rfl, hBW.os, hBW.tape, hBW.output, hBW.size, hBW.block⟩)
                  · rw [decide_eq_false hne1] at hc1
                    subst hc1
                    have hos := order_self want
                    rw [hw1] at hos
                    subst hgw
                    clear hne1
                    cases hn2 : a2.isNone <;>
                      (go_wp2_with (first | (go_at_call 12; refine (isnan_any _ _).mono ?_; rintro e w1 ⟨rfl, rfl⟩) | (go_at_call 13; refine (eqf_any g2 g3 n n cap3 d _ (by omega) (hF2W.drewN _) (hF3W.drewN _) hdur).mono ?_; rintro e w1 ⟨rfl, k9, rfl⟩) | (go_at_call 14; refine (heqW _).mono ?_; rintro e w1 ⟨rfl, k10, rfl⟩))
                       go_ret
                       exact ⟨rfl, hBW.os, hBW.tape, hBW.output, hBW.size, hBW.block⟩)

end Go.Proofs.Ybulkdiny
