import Derived.Test.YbulkdinkOwn
namespace Go.Proofs.Ybulkdink
open Go.ChangeShapes Go.WideShapes Go.ChangeAt Go.RowKit
set_option linter.unusedVariables false
set_option linter.unusedSimpArgs false

set_option maxRecDepth 100000 in
set_option maxHeartbeats 4000000 in
theorem standIn_none (a : Option Addr) (cap : Nat) (v : V) (w : World) :
    Calls Yba.prog 13 #[.slice a 0 cap, v.val] w fun e w' => e = .returned (.bool false) ∧ Ext w w' := by
  have hPl := Pl.some
  go_enter Yba.func13, Yba.ntmps13
  go_upto_region 1 with fail
  obtain ⟨W, hW, hE, bB, hk, hs⟩ := vbox w v
  rw [hW]
  clear hW hk hs
  obtain ⟨d0, d1, d2, d3, d4, d5⟩ := bB
  obtain ⟨gb, hgb⟩ : ∃ gb, w.heap.size = gb := ⟨_, rfl⟩
  rw [hgb] at d0 d1 d2 d3 d4 d5 ⊢
  obtain ⟨W0, k0, o0, hW0⟩ : ∃ W0 k0 o0, W0 = ext W k0 o0 ∧ W0 = W := ⟨W, 0, [], ext_zero W, rfl⟩
  rw [← hW0.2]
  obtain ⟨rfl, hW02⟩ := hW0
  clear hW02 hgb
  have F := fun k os => from_ext (fun w => find_none a cap v w) W k os
  go_wp2_with (go_at_call 18; refine (F _ _).mono ?_; rintro e w1 ⟨rfl, k1, o1, rfl⟩)
  refine region_ext mixed (by kernel_rfl) ?_
  repeat (open Go.BigFrame in go_big_quiet_step ((go_at_call 9; fail)))
  refine wpQuiet_nil ?_
  rintro _ ⟨q, rfl⟩
  go_wp2
  go_ret
  exact ⟨rfl, hE.trans ⟨_, _, rfl⟩⟩

set_option maxRecDepth 100000 in
set_option maxHeartbeats 4000000 in
theorem standIn_any (g cap : Nat) (xs : List V) (v : V) (w : World) (h0 : 0 < xs.length) (hn : xs.length ≤ 1000000) (hO : Own w g cap xs) (hok : ∀ u ∈ xs, u.Ok) (hv : v.Ok) (hsort : Srt xs) (hS : ∀ u ∈ xs, SigIn w u) (hsv : SigIn w v) :
    Calls Yba.prog 13 #[.slice (some ⟨g, 0, none⟩) xs.length cap, v.val] w fun e w' => e = .returned (.bool (has xs v)) ∧ Own w' g cap (put xs v) ∧ Keep (· = g) w w' := by
  have S : Hid (Srt xs) := hsort
  have okH : Hid (∀ u ∈ xs, u.Ok) := hok
  have SH : Hid (∀ u ∈ xs, SigIn w u) := hS
  have hml := m_sig
  simp only [Yba.f13, Option.getD_some, names, opName, List.flatMap_cons, List.flatMap_nil, List.nil_append, List.append_nil, List.cons_append, List.getD_cons_succ, List.getD_cons_zero] at hml
  have nH : Hid (0 < xs.length ∧ xs.length ≤ 1000000) := ⟨h0, hn⟩
  obtain ⟨f, hf⟩ : ∃ f, nth xs = f := ⟨_, rfl⟩
  have hfH : Hid (nth xs = f) := hf
  obtain ⟨n, hnn⟩ : ∃ n, xs.length = n := ⟨_, rfl⟩
  have hnH : Hid (xs.length = n) := hnn
  have hR0 := hO.row
  rw [hf, hnn] at hR0
  rw [hnn]
  clear hsort hok hS h0 hn hf hnn
  have hPl := Pl.some
  go_enter Yba.func13, Yba.ntmps13
  go_upto_region 1 with fail
  obtain ⟨W, hW, hE, bB, hk, hs⟩ := vbox w v
  rw [hW]
  have hR : VRow W g n f := hR0.of_block (hk g hR0.lt)
  have hOW : Own W g cap xs := hO.of_block (hk g hR0.lt)
  obtain ⟨d0, d1, d2, d3, d4, d5⟩ := bB
  obtain ⟨gb, hgb⟩ : ∃ gb, w.heap.size = gb := ⟨_, rfl⟩
  rw [hgb] at d0 d1 d2 d3 d4 d5 ⊢
  clear hW hk hs hgb hR0
  obtain ⟨W0, k0, o0, hW0⟩ : ∃ W0 k0 o0, W0 = ext W k0 o0 ∧ W0 = W := ⟨W, 0, [], ext_zero W, rfl⟩
  rw [← hW0.2]
  obtain ⟨rfl, hW02⟩ := hW0
  clear hW02
  have F : ∀ k os, Calls Yba.prog 18 #[.slice (some ⟨g, 0, none⟩) n cap, v.val] (ext W k os) fun e w' => Ans f n v e ∧ Ext (ext W k os) w' := fun k os =>
    hfH.out ▸ hnH.out ▸ find_any g xs.length cap (nth xs) v _ nH.out.1 nH.out.2 (hOW.row.ext k os) (fun i hi => okH.out _ (nth_mem hi)) hv S.out.at
  go_wp2_with (go_at_call 18; refine (F _ _).mono ?_; rintro e w1 ⟨⟨p, b, rfl, hF⟩, hE1⟩)
  obtain ⟨k1, o1, rfl⟩ := Ext.trans ⟨_, _, rfl⟩ hE1
  clear F hE1
  have hFH : Hid (Found f n v p b) := hF
  clear hF
  cases b with
  | false =>
    refine region_ext mixed (by kernel_rfl) ?_
    repeat (open Go.BigFrame in go_big_quiet_step ((go_at_call 9; fail)))
    refine wpQuiet_nil ?_
    rintro _ ⟨q, rfl⟩
    go_wp2
    go_ret
    have hN := put_none (xs := xs) (v := v) (fun i hi => by have := hFH.out.2 rfl i (hnH.out ▸ hi); rw [← hfH.out] at this; exact this)
    rw [hN.1, hN.2]
    exact ⟨rfl, hOW.of_block (ext_block hOW.lt), (hE.trans ⟨_, _, rfl⟩).keep _⟩
  | true =>
    obtain ⟨hp, hz⟩ := hFH.out.1 rfl
    have hzH : Hid (cmpV (f p) v = 0) := hz
    clear hz
    have hp' : (p : Int) < (n : Int) := by omega
    obtain ⟨a0, a1, a2, a3, a4, a5⟩ := hR.at hp
    have F1 := fun k os => from_pl (fun w => sig_any v w) W k os
    have F2 := fun k os => from_pl (fun w => sig_any (f p) w) W k os
    have sv : ∀ k os, SigIn (ext W k os) v := fun k os => by
      obtain ⟨k', os', e⟩ := hE.trans ⟨k, os, rfl⟩
      rw [e]; exact hsv.ext _ _
    have sp : ∀ k os, SigIn (ext W k os) (f p) := fun k os => by
      obtain ⟨k', os', e⟩ := hE.trans ⟨k, os, rfl⟩
      rw [e]; exact (SH.out _ (hfH.out ▸ nth_mem (hnH.out ▸ hp))).ext _ _
    have F3 : ∀ k os, Calls Yba.prog 9 #[v.sg, (f p).sg] (ext W k os) fun e w' => e = .returned (.int .i64 (sc v (f p))) ∧ ∃ q : Pl, w' = ext W q.n q.os := fun k os =>
      (bcmp v (f p) _ (sv k os) (sp k os)).mono fun e w' ⟨h1, h2⟩ => ⟨h1, ⟨k, os⟩, h2⟩
    have spH : Hid (∀ k os, SigIn (ext W k os) (f p)) := sp
    have svH : Hid (∀ k os, SigIn (ext W k os) v) := sv
    clear sv sp
    by_cases hc : sc v (f p) < 0
    · have hcd : decide (sc v (f p) < 0) = true := decide_eq_true hc
      refine region_ext mixed (by kernel_rfl) ?_
      repeat (open Go.BigFrame in go_big_quiet_step ((first | (go_at_call 41; first | (with_reducible exact F1 _ _) | (with_reducible exact F2 _ _)) | (go_at_call 9; exact F3 _ _))))
      refine wpQuiet_nil ?_
      rintro _ ⟨q, rfl⟩
      have hfz : ∀ j, (ext W q.n q.os).frozen? ⟨g, j, none⟩ = false := fun j => (hR.ext q.n q.os).frozen j
      have hset := Own.set (hOW.of_block (w' := ext W q.n q.os) (ext_block hOW.lt)) p v (hnH.out ▸ hp)
      obtain ⟨sa, sl, scp, hsg⟩ := hsv.form
      rw [hsg] at hset
      have hsetH : Hid (Own _ _ _ _) := hset
      clear hset
      go_wp2
      go_ret
      have hA := put_at (xs := xs) (v := v) S.out (p := p) (hnH.out ▸ hp) (by rw [hfH.out]; exact hzH.out)
      rw [hfH.out, if_pos (by omega)] at hA
      rw [hA.1, hA.2]
      refine ⟨rfl, hsetH.out, ?_⟩
      refine Keep.trans ((hE.trans ⟨q.n, q.os, rfl⟩).keep _) ?_
      exact (((((((Keep.refl _ _).setCell (by rfl) _).setCell (by rfl) _).setCell (by rfl) _).setCell (by rfl) _).setCell (by rfl) _).setCell (by rfl) _)
    · have hcd : decide (sc v (f p) < 0) = false := decide_eq_false hc
      refine region_ext mixed (by kernel_rfl) ?_
      repeat (open Go.BigFrame in go_big_quiet_step ((first | (go_at_call 41; first | (with_reducible exact F1 _ _) | (with_reducible exact F2 _ _)) | (go_at_call 9; exact F3 _ _))))
      refine wpQuiet_nil ?_
      rintro _ ⟨q, rfl⟩
      go_wp2
      go_ret
      have hA := put_at (xs := xs) (v := v) S.out (p := p) (hnH.out ▸ hp) (by rw [hfH.out]; exact hzH.out)
      rw [hfH.out, if_neg (by omega)] at hA
      rw [hA.1, hA.2]
      exact ⟨rfl, hOW.of_block (ext_block hOW.lt), (hE.trans ⟨_, _, rfl⟩).keep _⟩

end Go.Proofs.Ybulkdink
