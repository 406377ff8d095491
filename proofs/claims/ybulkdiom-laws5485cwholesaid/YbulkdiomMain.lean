/- The walk of LawS5485CWhole: five loops, one behind the other, over the memory of YbulkdiomMem. -/
import Derived.Test.YbulkdiomMem
import Derived.RegionTactic
import Derived.ChangeAlike
namespace Go.Proofs.Ybulkdiom.lawS5485CWhole
open Go.ChangeShapes Go.WideShapes Go.ChangeAt Go.RowKit
set_option linter.unusedVariables false

theorem Yba.info65 : (Yba.prog.info? 65).map (·.size) = some 53 := by kernel_rfl

set_option maxRecDepth 100000 in
set_option maxHeartbeats 4000000 in
theorem main (b0 off0 n c0 : Nat) (thr : Nat → Int) (a1 : Option Addr) (len1 c1 : Nat) (zp : Nat → Int) (a2 : Option Addr) (len2 c2 : Nat) (zm : Nat → Int) (pu : Int) (w : World)
    (hn0 : 0 < n) (hn : n ≤ 1048576) (hb0 : b0 < w.heap.size) (hth : ∀ i, i < n → w.cell? ⟨b0, off0 + i, none⟩ = some (.int .i64 (thr i)))
    (hr1 : Rd w.heap.size w a1 len1 zp) (hr2 : Rd w.heap.size w a2 len2 zm) (hzp : ∀ i, i < len1 → zp i ≤ 9223372036854775807) (hpu0 : 0 ≤ pu) (hpu1 : pu ≤ 18446744073709551615) :
    Calls Yba.prog 3 #[.slice (some ⟨b0, off0, none⟩) n c0, .slice a1 len1 c1, .slice a2 len2 c2, .int .u64 pu] w fun e w' => e = .returned (.bool true) ∧ Below w.heap.size w w' := by
  have hmk := run_make_row' (P := Yba.prog) 22 3 (.int .i64 0) 8 Yba.underlying22 Yba.info3 rfl .i64 .i64 n (by omega) (by omega)
  obtain ⟨i28, hi28, z28, s28, y28⟩ := info_parts Yba.info28
  obtain ⟨i31, hi31, z31, s31, y31⟩ := info_parts Yba.info31
  obtain ⟨i65, hi65, s65⟩ := Option.map_eq_some_iff.1 Yba.info65
  have hm28 := fun w' => run_make (P := Yba.prog) w' 24 28 i28 _ Yba.underlying24 hi28 z28 .i64 .i64 n n (by omega) (by omega) (by rw [y28]; omega) (by omega)
  have hm31 := fun w' => run_make (P := Yba.prog) w' 25 31 i31 _ Yba.underlying25 hi31 z31 .i64 .i64 n n (by omega) (by omega) (by rw [y31]; omega) (by omega)
  rw [s28] at hm28
  rw [s31] at hm31
  obtain ⟨i3, hi3, z3, s3, y3⟩ := info_parts Yba.info3
  have hn0' : ((n : Int) == 0) = false := beq_eq_false_iff_ne.2 (by omega)
  have hn' : decide ((1048576 : Int) < (n : Int)) = false := decide_eq_false (by omega)
  have hpb : ∀ i, -1 ≤ parOf zp len1 i ∧ parOf zp len1 i < i := fun i => parOf_bd zp len1 i
  go_enter Yba.func3, Yba.ntmps3
  go_wp2
  go_loopw [14] (fun iv wr => ∃ k : Nat, k ≤ n ∧ iv = .int .i64 k ∧ R1 w n thr (parOf zp len1) (m0 zm len2) k wr) (fun iv _ => n - (intOf iv).toNat)
  case atStart => exact ⟨0, Nat.zero_le _, rfl, R1_start w n thr _ _⟩
  case round =>
    obtain ⟨k, hk, rfl, hR⟩ := hrel
    by_cases hlt : k < n
    · have hlt' : (k : Int) < (n : Int) := by omega
      have cth : wr.cell? ⟨b0, off0 + k, none⟩ = some (.int .i64 (thr k)) := (hR.bel.cell (by exact hb0)).trans (hth k hlt)
      have hr1' : Rd w.heap.size wr a1 len1 zp := Rd_kept hr1 hR.bel
      have cA := hR.pa.cell hlt
      have fA := hR.pa.frozen k
      have cB0 := hR.se.cell (i := k * 3) (by omega)
      have cB1 := hR.se.cell (i := k * 3 + 1) (by omega)
      have cB2 := hR.se.cell (i := k * 3 + 2) (by omega)
      have fB0 := hR.se.frozen (k * 3)
      have fB1 := hR.se.frozen (k * 3 + 1)
      have fB2 := hR.se.frozen (k * 3 + 2)
      have cD := hR.me.cell hlt
      have fD := hR.me.frozen k
      by_cases hm : k < len2
      · have hm' : (k : Int) < (len2 : Int) := by omega
        have hstep := R1_step' hR
        have em : m0 zm len2 k = zm k := by simp [m0, hm]
        rw [em] at hstep
        clear em
        obtain ⟨b2, off2, rfl, hb2, hc2⟩ := hr2 k hm
        have cm : wr.cell? ⟨b2, off2 + k, none⟩ = some (.int .i64 (zm k)) := (hR.bel.cell (by exact hb2)).trans hc2
        go_wp2_with (go_at_call 4; refine (parent_any w.heap.size a1 len1 c1 zp k wr (by omega) hr1' hzp).mono ?_; rintro e w' ⟨rfl, rfl⟩)
        go_roundw
        case rel => exact ⟨k + 1, by omega, by go_num, hstep⟩
        case measure => simp [intOf]; omega
      · have hm' : ¬ (k : Int) < (len2 : Int) := by omega
        have hstep := R1_step hR (by simp [m0, hm])
        go_wp2_with (go_at_call 4; refine (parent_any w.heap.size a1 len1 c1 zp k wr (by omega) hr1' hzp).mono ?_; rintro e w' ⟨rfl, rfl⟩)
        go_roundw
        case rel => exact ⟨k + 1, by omega, by go_num, hstep⟩
        case measure => simp [intOf]; omega
    · have ek : n = k := by omega
      subst ek
      have hR2 := R2_start hR
      clear hR
      go_wp2
      go_loopw [15] (fun iv wr => ∃ k : Nat, k ≤ n ∧ iv = .int .i64 k ∧ R2 w n thr (parOf zp len1) (m0 zm len2) k wr) (fun iv _ => n - (intOf iv).toNat)
      case atStart => exact ⟨0, Nat.zero_le _, rfl, hR2⟩
      case round =>
        clear hR2
        obtain ⟨k, hk, rfl, hR⟩ := hrel
        by_cases hlt : k < n
        · have hlt' : (k : Int) < (n : Int) := by omega
          have cA : wr.cell? ⟨w.heap.size, k, none⟩ = some (.int .i64 (parOf zp len1 k)) := by rw [hR.pa.cell hlt]; simp [F1, hlt]
          have cB0 := hR.pl.cell (i := k * 3) (by omega)
          have cB1 := hR.pl.cell (i := k * 3 + 1) (by omega)
          have cB2 := hR.pl.cell (i := k * 3 + 2) (by omega)
          have fB0 := hR.pl.frozen (k * 3)
          have fB1 := hR.pl.frozen (k * 3 + 1)
          have fB2 := hR.pl.frozen (k * 3 + 2)
          have hstep := R2_step (R2_drew hR)
          go_wp2
          go_region
          all_goals go_wp2
          all_goals go_roundw
          case rel => exact ⟨k + 1, by omega, by go_num, hstep⟩
          case measure => simp [intOf]; omega
        · have ek : n = k := by omega
          subst ek
          obtain ⟨w2, e2⟩ : ∃ w2, w2 = wr := ⟨_, rfl⟩
          subst e2
          have hsz2 := hR.sz
          obtain ⟨p, ep⟩ : ∃ p : Nat, pu % (n : Int) = (p : Int) := ⟨(pu % (n : Int)).toNat, by have := Int.emod_nonneg pu (show (n : Int) ≠ 0 by omega); omega⟩
          have hpn : p < n := by have := Int.emod_lt_of_pos pu (show (0 : Int) < (n : Int) by omega); omega
          have hme : w2.rowIs (w.heap.size + 1 + 1 + 1) 3 n (fun j => .int .i64 (m0 zm len2 j)) := hR.me.congr (fun i hi => by simp [F1, hi])
          have hz3 : (Yba.prog.info? 3).map (·.size) = some 1 := by kernel_rfl
          have HZ : Hid (w2.heap.size = w.heap.size + 1 + 1 + 1 + 1) := hsz2
          clear hsz2 hm28 hm31
          go_wp2_with (with_reducible show wpList _ _ _ (⟨_, Op.call { callee := Callee.builtin Builtin.copy, args := _, argTypes := _ }, _, _, _, _⟩ :: _) _ _; (refine wpList_copy_rows rfl (.tmp 92) (.tmp 93) 22 22 rfl 3 Yba.underlying22 hz3 (w2.heap.size + 1) (w.heap.size + 1 + 1 + 1) n n n rfl rfl 3 3 (fun _ => .int .i64 0) (fun j => .int .i64 (m0 zm len2 j)) (by simpa using World.rowIs_made (w2.alloc _) (.int .i64 0) n 3) ((hme.alloc _).alloc _) (fun _ => rfl) ?_); intro w3 h3 hg3 hs3; simp only [World.size_alloc] at hs3)
          have hR3 := R3_make hR _ rfl h3 hg3 hs3 _ rfl
          have HP : Hid (∀ q : Nat, -1 ≤ parOf zp len1 q ∧ parOf zp len1 q < q) := hpb
          have hcl := Plain.chain_len (parOf zp len1) hpb p
          have HE : Hid (pu % (n : Int) = (p : Int)) := ep
          clear h3 hg3 hs3 hR hpb hme HZ ep
          go_loopw [20, 21] (fun av qv wr => ∃ (pre : List Nat) (q : Int), qv = .int .i64 q ∧ -1 ≤ q ∧ q < n ∧ Hid (pre ++ Plain.tail (parOf zp len1) q = Plain.chain (parOf zp len1) p) ∧
              wr.ownsRow (w2.heap.size + 1 + 1 + 1) 3 1 av pre.length (pre.map (fun x : Nat => Value.int .i64 (x : Int))) ∧ R3 w w2.heap.size n thr (parOf zp len1) (m0 zm len2) (m0 zm len2) wr)
            (fun _ qv _ => (intOf qv + 1).toNat)
          case atStart => exact ⟨[], p, rfl, by omega, by omega, (by show [] ++ Plain.tail (parOf zp len1) (p : Int) = _; unfold Plain.tail; rw [if_neg (by omega)]; simp), World.ownsRow_nil _ _ _ _, hR3⟩
          case round =>
            clear hR3
            obtain ⟨pre, q, rfl, hq1, hq2, hch, hown, hR⟩ := hrel
            have hplen : pre.length ≤ n := by
              have := congrArg List.length hch.out
              simp at this
              omega
            have hszr := hR.size
            by_cases hq0 : 0 ≤ q
            · obtain ⟨q', rfl⟩ := Int.eq_ofNat_of_zero_le hq0
              have hqn : q' < n := by omega
              have hch' : Hid ((pre ++ [q']) ++ Plain.tail (parOf zp len1) (parOf zp len1 q') = Plain.chain (parOf zp len1) p) := by
                have := hch.out
                rw [Plain.tail_nat _ HP.out] at this
                simpa [Hid] using this
              have hpq := HP.out q'
              clear hch
              go_wp2_with (at_builtin; refine wpList_append_own _ rfl _ _ 22 rfl (w2.heap.size + 1 + 1 + 1) 3 i3 (.int .i64 0) 1 8 Yba.underlying22 hi3 z3 s3 y3 rfl (by decide) _ _ _ rfl (hown.alloc _) ⟨wr.heap.size, 0, none⟩ 1 1 [.int .i64 (q' : Int)] rfl rfl (cell_one_new _ _ _) (ints_oneCell .i64 [(q' : Int)]) (by unfold maxLen; omega) (by omega) (by simp; omega) ?_; intro v' w1 hown' hgrow _; have cq := (R3.cellPa ((hR.alloc _).grown hgrow (fun k hk => (hown.lt k hk).1)) hqn))
              go_roundw
              case rel =>
                have hR' := (hR.alloc _).grown hgrow (fun k hk => (hown.lt k hk).1)
                have hown2 : w1.ownsRow (w2.heap.size + 1 + 1 + 1) 3 1 v' (pre ++ [q']).length ((pre ++ [q']).map (fun x : Nat => Value.int .i64 (x : Int))) := by simpa using hown'
                first | exact ⟨pre ++ [q'], _, rfl, by omega, by omega, hch', hown2, hR'⟩ | ((repeat apply Exists.intro); exact ⟨⟨pre ++ [q'], _, rfl, by omega, by omega, hch', hown2, hR'⟩, rfl⟩)
              case measure => simp [intOf]; omega
            · have eq1 : q = -1 := by omega
              subst eq1
              have hch' : pre = Plain.chain (parOf zp len1) p := by simpa [Plain.tail] using hch.out
              subst hch'
              clear hch
              obtain ⟨w4, e4⟩ : ∃ w4, w4 = wr := ⟨_, rfl⟩
              subst e4
              have hCpos : 0 < (Plain.chain (parOf zp len1) p).length := by rw [Plain.chain_eq _ HP.out]; simp
              obtain ⟨g, gc, hu20, hg1, hg2, hgc⟩ := owns_shape hown hCpos (by simp)
              have hCn := Plain.chain_le (parOf zp len1) HP.out p
              obtain ⟨C, eC⟩ : ∃ C, C = Plain.chain (parOf zp len1) p := ⟨_, rfl⟩
              rw [← eC] at hCpos hCn hu20 hgc hcl hplen
              have HC : Hid (C = Plain.chain (parOf zp len1) p) := eC
              clear eC hown
              subst hu20
              have hgc' : ∀ j, j < C.length → w4.cell? ⟨g, j, none⟩ = some (.int .i64 (C.getD j 0 : Nat)) := fun j hj => hgc j _ (by simp [hj, List.getD])
              clear hgc
              have hme : w4.rowIs (w.heap.size + 1 + 1 + 1) 3 n (fun j => .int .i64 (m0 zm len2 j)) := hR.me
              go_wp2_with (with_reducible show wpList _ _ _ (⟨_, Op.call { callee := Callee.builtin Builtin.copy, args := _, argTypes := _ }, _, _, _, _⟩ :: _) _ _; (refine wpList_copy_rows rfl (.tmp 117) (.tmp 118) 22 22 rfl 3 Yba.underlying22 hz3 (w4.heap.size) (w.heap.size + 1 + 1 + 1) n n n rfl rfl 3 3 (fun _ => .int .i64 0) (fun j => .int .i64 (m0 zm len2 j)) (World.rowIs_made w4 (.int .i64 0) n 3) (hme.alloc _) (fun _ => rfl) ?_); intro w5 h5 hg5 hs5)
              have hR4 : R4 w4 w4.heap.size n (m0 zm len2) w5 := ⟨h5, ((Below.refl _ _).alloc (Nat.le_refl _) _).grown hg5 (by simp) (fun k hk => by cases hk; exact Nat.le_refl _)⟩
              clear h5 hg5 hs5 hme hmk
              go_loopw [23, 24] (fun kv _ wr => ∃ k : Nat, k ≤ C.length ∧ kv = .int .i64 k ∧ R4 w4 w4.heap.size n (Plain.raised (fun x => wrap64 (x + 1)) (m0 zm len2) (C.take k)) wr ∧ Hid (∀ x ∈ C.take k, (wrap64 (m0 zm len2 x + 1) != thr x) = false))
                (fun kv _ _ => C.length - (intOf kv).toNat)
              case atStart => exact ⟨0, Nat.zero_le _, rfl, hR4.congr (fun j => by rw [List.take_zero, Plain.raised_nil]), by simp [Hid]⟩
              case round =>
                clear hR4
                obtain ⟨k, hk, rfl, hR4, hbad⟩ := hrel
                have hE1 : w2.heap.size + 1 + 1 + 1 ≤ w4.heap.size := by omega
                have hR5 := hR.below hR4.bel hE1
                have HNB : Hid (w2.heap.size = w.heap.size + 1 + 1 + 1 + 1) := hR.hB
                have hNB' : w2.heap.size ≤ w.heap.size + 1 + 1 + 1 + 1 ∧ w.heap.size + 1 + 1 + 1 + 1 ≤ w2.heap.size := by have := hR.hB; omega
                by_cases hkC : k < C.length
                · have hkC' : (k : Int) < (C.length : Int) := by omega
                  obtain ⟨q, eq⟩ : ∃ q, q = C.getD k 0 := ⟨_, rfl⟩
                  have hgk : wr.cell? ⟨g, k, none⟩ = some (.int .i64 (q : Int)) := by rw [eq]; exact (hR4.bel.cell (by exact hg2)).trans (hgc' k hkC)
                  have hqm : q ∈ C := by rw [eq]; simp [List.getD, hkC]
                  have hqp := hCn q hqm
                  have hqn : q < n := by omega
                  have hqn' : (q : Int) < (n : Int) := by omega
                  have cm := hR5.me.cell hqn
                  have ce := hR4.ex.cell hqn
                  have fe := hR4.ex.frozen q
                  have cth : wr.cell? ⟨b0, off0 + q, none⟩ = some (.int .i64 (thr q)) := (hR5.bel.cell (by exact hb0)).trans (hth q hqn)
                  have etk : C.take (k + 1) = C.take k ++ [q] := by rw [List.take_succ_eq_append_getElem hkC, eq]; simp [List.getD, hkC]
                  have HT : Hid (C.take (k + 1) = C.take k ++ [q]) := etk
                  have hst : R4 w4 w4.heap.size n (Plain.raised (fun x => wrap64 (x + 1)) (m0 zm len2) (C.take (k + 1))) (wr.setCell ⟨w4.heap.size, q, none⟩ (.int .i64 (wrap64 (m0 zm len2 q + 1)))) :=
                    (R4_step hR4 q _).congr (fun j => by rw [etk, Plain.raised_snoc])
                  have hd1 : ¬ w.heap.size + 1 + 1 + 1 = w4.heap.size := by omega
                  have hd2 : ¬ b0 = w4.heap.size := by omega
                  clear etk eq hqm hqp
                  cases hb : (wrap64 (m0 zm len2 q + 1) != thr q) with
                  | false =>
                    go_wp2
                    go_quiet (fail)
                    go_wp2
                    go_roundw
                    case rel =>
                      refine ⟨k + 1, by omega, by go_num, R4_drewN hst _, ?_⟩
                      show ∀ x ∈ C.take (k + 1), (wrap64 (m0 zm len2 x + 1) != thr x) = false
                      rw [HT.out]
                      intro x hx
                      rcases List.mem_append.1 hx with hx | hx
                      · exact hbad.out x hx
                      · obtain rfl : x = q := by simpa using hx
                        exact hb
                    case measure => simp [intOf]; omega
                  | true =>
                    go_wp2
                    go_quiet (fail)
                    go_wp2_with fail
                    have hX : R4 w4 w4.heap.size n (Plain.raised (fun x => wrap64 (x + 1)) (m0 zm len2) (Plain.upto (fun q => wrap64 (m0 zm len2 q + 1) != thr q) C)) ((wr.setCell ⟨w4.heap.size, q, none⟩ (.int .i64 (wrap64 (m0 zm len2 q + 1)))).drewN nq) := by
                      have eU : Plain.upto (fun q => wrap64 (m0 zm len2 q + 1) != thr q) C = C.take (k + 1) := by
                        have e1 : C = C.take k ++ (q :: C.drop (k + 1)) := by
                          have := List.take_append_drop (k + 1) C
                          rw [HT.out] at this
                          simpa using this.symm
                        rw [HT.out]
                        conv => lhs; rw [e1]
                        rw [Plain.upto_append _ _ _ hbad.out]
                        simp [Plain.upto, hb]
                      rw [eU]
                      exact R4_drewN hst nq
                    have hX5 := hR.below hX.bel hE1
                    refine (raise_R3 hX5 hn HP.out p hpn).mono ?_
                    rintro e w6 ⟨rfl, hR6, hg6, hs6⟩
                    have hex6 := rowIs_grown hX.ex hg6 (by omega)
                    rw [← HC.out] at hR6
                    have t0 := hR6.tcell (j := 0) (v := (.pointer (some ⟨w2.heap.size, 0, none⟩))) rfl
                    have t1 := hR6.tcell (j := 1) (v := (.slice none 0 0)) rfl
                    have t2 := hR6.tcell (j := 2) (v := (.slice (some ⟨w2.heap.size + 1, 0, none⟩) n n)) rfl
                    have t3 := hR6.tcell (j := 3) (v := (.slice none 0 0)) rfl
                    have t4 := hR6.tcell (j := 4) (v := (.slice none 0 0)) rfl
                    have t5 := hR6.tcell (j := 5) (v := (.slice none 0 0)) rfl
                    have t6 := hR6.tcell (j := 6) (v := (.slice none 0 0)) rfl
                    have nt := hR6.net
                    have p29 := fun w' a => run_neq_ptr_same (P := Yba.prog) w' 29 28 i28 a Yba.underlying29 hi28 (by rw [s28]; decide)
                    have p32 := fun w' a => run_neq_ptr_same (P := Yba.prog) w' 32 65 i65 a Yba.underlying32 hi65 (by rw [s65]; decide)
                    have n68 := fun w' a n c => run_neq_slice_nil_any (P := Yba.prog) w' 68 100 a n c 0 0 Yba.underlying68
                    have n22 := fun w' a n c => run_neq_slice_nil_any (P := Yba.prog) w' 22 3 a n c 0 0 Yba.underlying22
                    clear hs6 hg6
                    go_wp2
                    go_loopw [25] (fun iv wr => ∃ k : Nat, k ≤ n ∧ iv = .int .i64 k ∧ ∃ d, wr = w6.drewN d) (fun iv _ => n - (intOf iv).toNat)
                    case atStart => exact ⟨0, Nat.zero_le _, rfl, 0, rfl⟩
                    case round =>
                      obtain ⟨k, hk6, rfl, d, rfl⟩ := hrel
                      by_cases hlt6 : k < n
                      · have hlt6' : (k : Int) < (n : Int) := by omega
                        have x1 := hR6.tm.cell hlt6
                        have x2 := hex6.cell hlt6
                        have x3 := hR6.place0 hlt6
                        have x4 := hR6.place1 hlt6
                        have x5 := hR6.place2 hlt6
                        have x6 := hR6.cellPa hlt6
                        have x7 := hR6.set0 hlt6
                        have x8 : w6.cell? ⟨b0, off0 + k, none⟩ = some (.int .i64 (thr k)) := (hR6.bel.cell (by exact hb0)).trans (hth k hlt6)
                        go_wp2
                        go_quiet (fail)
                        go_wp2
                        go_quiet (fail)
                        go_wp2
                        go_quiet (fail)
                        go_wp2
                        go_roundw
                        case rel => exact ⟨k + 1, by omega, by go_num, _, rfl⟩
                        case measure => simp [intOf]; omega
                      · have ek : n = k := by omega
                        subst ek
                        go_wp2
                        go_ret
                        exact ⟨rfl, below_drewN hR6.bel d⟩
                · go_wp2_with fail
                  have hX : R4 w4 w4.heap.size n (Plain.raised (fun x => wrap64 (x + 1)) (m0 zm len2) (Plain.upto (fun q => wrap64 (m0 zm len2 q + 1) != thr q) C)) wr := by
                    have ek : k = C.length := by omega
                    have eT : C.take k = C := by rw [ek]; simp
                    rw [eT] at hR4
                    have hb := hbad.out
                    rw [eT] at hb
                    rw [Plain.upto_all _ _ hb]
                    exact hR4
                  have hX5 := hR.below hX.bel hE1
                  refine (raise_R3 hX5 hn HP.out p hpn).mono ?_
                  rintro e w6 ⟨rfl, hR6, hg6, hs6⟩
                  have hex6 := rowIs_grown hX.ex hg6 (by omega)
                  rw [← HC.out] at hR6
                  have t0 := hR6.tcell (j := 0) (v := (.pointer (some ⟨w2.heap.size, 0, none⟩))) rfl
                  have t1 := hR6.tcell (j := 1) (v := (.slice none 0 0)) rfl
                  have t2 := hR6.tcell (j := 2) (v := (.slice (some ⟨w2.heap.size + 1, 0, none⟩) n n)) rfl
                  have t3 := hR6.tcell (j := 3) (v := (.slice none 0 0)) rfl
                  have t4 := hR6.tcell (j := 4) (v := (.slice none 0 0)) rfl
                  have t5 := hR6.tcell (j := 5) (v := (.slice none 0 0)) rfl
                  have t6 := hR6.tcell (j := 6) (v := (.slice none 0 0)) rfl
                  have nt := hR6.net
                  have p29 := fun w' a => run_neq_ptr_same (P := Yba.prog) w' 29 28 i28 a Yba.underlying29 hi28 (by rw [s28]; decide)
                  have p32 := fun w' a => run_neq_ptr_same (P := Yba.prog) w' 32 65 i65 a Yba.underlying32 hi65 (by rw [s65]; decide)
                  have n68 := fun w' a n c => run_neq_slice_nil_any (P := Yba.prog) w' 68 100 a n c 0 0 Yba.underlying68
                  have n22 := fun w' a n c => run_neq_slice_nil_any (P := Yba.prog) w' 22 3 a n c 0 0 Yba.underlying22
                  clear hs6 hg6
                  go_wp2
                  go_loopw [25] (fun iv wr => ∃ k : Nat, k ≤ n ∧ iv = .int .i64 k ∧ ∃ d, wr = w6.drewN d) (fun iv _ => n - (intOf iv).toNat)
                  case atStart => exact ⟨0, Nat.zero_le _, rfl, 0, rfl⟩
                  case round =>
                    obtain ⟨k, hk6, rfl, d, rfl⟩ := hrel
                    by_cases hlt6 : k < n
                    · have hlt6' : (k : Int) < (n : Int) := by omega
                      have x1 := hR6.tm.cell hlt6
                      have x2 := hex6.cell hlt6
                      have x3 := hR6.place0 hlt6
                      have x4 := hR6.place1 hlt6
                      have x5 := hR6.place2 hlt6
                      have x6 := hR6.cellPa hlt6
                      have x7 := hR6.set0 hlt6
                      have x8 : w6.cell? ⟨b0, off0 + k, none⟩ = some (.int .i64 (thr k)) := (hR6.bel.cell (by exact hb0)).trans (hth k hlt6)
                      go_wp2
                      go_quiet (fail)
                      go_wp2
                      go_quiet (fail)
                      go_wp2
                      go_quiet (fail)
                      go_wp2
                      go_roundw
                      case rel => exact ⟨k + 1, by omega, by go_num, _, rfl⟩
                      case measure => simp [intOf]; omega
                    · have ek : n = k := by omega
                      subst ek
                      go_wp2
                      go_ret
                      exact ⟨rfl, below_drewN hR6.bel d⟩
end Go.Proofs.Ybulkdiom.lawS5485CWhole
