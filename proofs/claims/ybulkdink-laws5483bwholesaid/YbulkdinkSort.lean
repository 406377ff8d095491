import Derived.Test.YbulkdinkAbove
namespace Go.Proofs.Ybulkdink
open Go.ChangeShapes Go.WideShapes Go.ChangeAt Go.RowKit
set_option linter.unusedVariables false

/-- the form of a signature's value -/
def SgF (u : V) : Prop := ∃ a l c, u.sg = .slice a l c
theorem SigIn.sgF {w : World} {v : V} (h : SigIn w v) : SgF v := h.form

/-- sorted but for place j, up to place m -/
def But (ys : List V) (j m : Nat) : Prop := ∀ a b, a < b → b < m → b ≠ j → cmpV (nth ys a) (nth ys b) ≤ 0

theorem nth_set (ys : List V) (i j : Nat) (v : V) (hi : i < ys.length) : nth (ys.set i v) j = if j = i then v else nth ys j := by
  unfold nth
  rw [List.getD_eq_getElem?_getD, List.getD_eq_getElem?_getD, List.getElem?_set]
  by_cases h : j = i
  · subst h; simp [hi]
  · simp [h, Ne.symm h]

theorem cmpV_le_trans {a b c : V} (h1 : cmpV a b ≤ 0) (h2 : cmpV b c ≤ 0) : cmpV a c ≤ 0 := by
  rcases Int.lt_or_eq_of_le h1 with h | h
  · exact Int.le_of_lt (cmpV_trans h h2)
  · rcases Int.lt_or_eq_of_le h2 with h' | h'
    · exact Int.le_of_lt (cmpV_trans' h1 h')
    · rw [cmpV_zero] at h h'
      exact Int.le_of_eq ((cmpV_zero a c).2 (by omega))

theorem But.swap {ys : List V} {p m : Nat} (h : But ys (p + 1) m) (hm : m ≤ ys.length) (hp : p + 1 < m) (hc : 0 < cmpV (nth ys p) (nth ys (p + 1))) :
    But ((ys.set (p + 1) (nth ys p)).set p (nth ys (p + 1))) p m := by
  have e : ∀ i, nth ((ys.set (p + 1) (nth ys p)).set p (nth ys (p + 1))) i = if i = p then nth ys (p + 1) else if i = p + 1 then nth ys p else nth ys i := fun i => by
    rw [nth_set _ _ _ _ (by simp; omega), nth_set _ _ _ _ (by omega)]
  have hlt : cmpV (nth ys (p + 1)) (nth ys p) < 0 := (cmpV_swap _ _).1 hc
  intro a b hab hb hbp
  rw [e, e]
  by_cases h1 : b = p + 1
  · subst h1
    rw [if_neg hbp, if_pos rfl]
    by_cases h2 : a = p
    · subst h2; rw [if_pos rfl]; omega
    · rw [if_neg h2, if_neg (by omega)]
      exact h a p (by omega) (by omega) (by omega)
  · rw [if_neg hbp, if_neg h1]
    by_cases h2 : a = p
    · subst h2; rw [if_pos rfl]; exact h (a + 1) b (by omega) hb h1
    · rw [if_neg h2]
      by_cases h3 : a = p + 1
      · rw [if_pos h3]; exact h p b (by omega) hb h1
      · rw [if_neg h3]; exact h a b hab hb h1

theorem set_swap_perm (ys : List V) (p : Nat) (hp : p + 1 < ys.length) : ((ys.set (p + 1) (nth ys p)).set p (nth ys (p + 1))).Perm ys := by
  have h1 : nth ys p = ys[p] := by simp [nth, List.getD_eq_getElem?_getD, show p < ys.length by omega]
  have h2 : nth ys (p + 1) = ys[p + 1] := by simp [nth, List.getD_eq_getElem?_getD, hp]
  rw [h1, h2]
  exact List.set_set_perm hp (by omega)

theorem At.here {W : World} {g o : Nat} {v : V} (h : At W g o v) : W.cell? ⟨g, o, none⟩ = some (.string ⟨#[120]⟩) ∧ W.cell? ⟨g, o + 1, none⟩ = some (.string (str v.src)) ∧ W.cell? ⟨g, o + 2, none⟩ = some (.string (str v.tgt)) ∧
    W.cell? ⟨g, o + 3, none⟩ = some (.int .u64 v.s) ∧ W.cell? ⟨g, o + 4, none⟩ = some (.int .u64 v.t) ∧ W.cell? ⟨g, o + 5, none⟩ = some v.sg := by
  have e := ext_zero W
  obtain ⟨h0, h1, h2, h3, h4, h5⟩ := h
  have a0 := h0 0 []; have a1 := h1 0 []; have a2 := h2 0 []; have a3 := h3 0 []; have a4 := h4 0 []; have a5 := h5 0 []
  rw [← e] at a0 a1 a2 a3 a4 a5
  exact ⟨a0, a1, a2, a3, a4, a5⟩
theorem Boxed.here {W : World} {g : Nat} {v : V} (h : Boxed W g v) : W.cell? ⟨g, 0, none⟩ = some (.string ⟨#[120]⟩) ∧ W.cell? ⟨g, 1, none⟩ = some (.string (str v.src)) ∧ W.cell? ⟨g, 2, none⟩ = some (.string (str v.tgt)) ∧
    W.cell? ⟨g, 3, none⟩ = some (.int .u64 v.s) ∧ W.cell? ⟨g, 4, none⟩ = some (.int .u64 v.t) ∧ W.cell? ⟨g, 5, none⟩ = some v.sg := by
  have e := ext_zero W
  obtain ⟨h0, h1, h2, h3, h4, h5⟩ := h
  have a0 := h0 0 []; have a1 := h1 0 []; have a2 := h2 0 []; have a3 := h3 0 []; have a4 := h4 0 []; have a5 := h5 0 []
  rw [← e] at a0 a1 a2 a3 a4 a5
  exact ⟨a0, a1, a2, a3, a4, a5⟩

set_option maxRecDepth 100000 in
set_option maxHeartbeats 4000000 in
theorem sort_any (g cap : Nat) (xs : List V) (w : World) (hn : xs.length ≤ 1000000) (hO : Own w g cap xs) (hok : ∀ u ∈ xs, u.Ok) (hF : ∀ u ∈ xs, SgF u) :
    Calls Yba.prog 6 #[.slice (some ⟨g, 0, none⟩) xs.length cap] w fun e w' => e = .returned (.tuple #[]) ∧ (∃ ys, Own w' g cap ys ∧ ys.Perm xs ∧ But ys xs.length xs.length) ∧ Keep (· = g) w w' := by
  have okH : Hid (∀ u ∈ xs, u.Ok) := hok
  have FH : Hid (∀ u ∈ xs, SgF u) := hF
  have OH : Hid (Own w g cap xs) := hO
  have hPl := Pl.some
  clear hok hF hO
  obtain ⟨n, hnn⟩ : ∃ n, xs.length = n := ⟨_, rfl⟩
  have hnH : Hid (xs.length = n) := hnn
  rw [hnn] at hn ⊢
  clear hnn
  go_enter Yba.func6, Yba.ntmps6
  go_wp2
  go_loopg [2] n (fun k s2 wr => ∃ (i : Nat) (ys : List V), 1 ≤ i ∧ i ≤ n + 1 ∧ k = n + 1 - i ∧ s2 = .int .i64 (i : Nat) ∧ Own wr g cap ys ∧ ys.Perm xs ∧ But ys n (min i n) ∧ Keep (· = g) w wr)
  case atStart => 
    refine ⟨1, xs, by omega, by omega, by omega, rfl, OH.out, List.Perm.refl _, fun a b h1 h2 => by omega, Keep.refl _ _⟩
  case round =>
    obtain ⟨i, ys, hi1, hi, hk, rfl, hOy, hP, hB, hK⟩ := hrel
    have BH : Hid (But ys n (min i n)) := hB
    clear hB
    by_cases hin : i < n
    · have hin' : (i : Int) < (n : Int) := by omega
      go_wp2
      go_loopg [3] (i + 1) (fun k s3 wr => ∃ (j : Nat) (zs : List V), j ≤ i ∧ k = j + 1 ∧ s3 = .int .i64 (j : Nat) ∧ Own wr g cap zs ∧ zs.Perm xs ∧ But zs j (i + 1) ∧ Keep (· = g) w wr)
      case atStart =>
        refine ⟨i, ys, by omega, rfl, rfl, hOy, hP, fun a b h1 h2 h3 => ?_, hK⟩
        exact BH.out a b h1 (by omega) (by omega)
      case round =>
        clear hOy hP BH hK
        obtain ⟨j, zs, hj, hk, rfl, hOz, hP, hB, hK⟩ := hrel
        have BH : Hid (But zs j (i + 1)) := hB
        have hlen : zs.length = n := by rw [hP.length_eq]; exact hnH.out
        have hlenH : Hid (zs.length = n) := hlen
        have hPH : Hid (zs.Perm xs) := hP
        clear hB hlen hP
        obtain ⟨f, hf⟩ : ∃ f, nth zs = f := ⟨_, rfl⟩
        have hfH : Hid (nth zs = f) := hf
        have hR := hOz.row
        rw [hlenH.out, hf] at hR
        have OzH : Hid (Own wr g cap zs) := hOz
        have KH : Hid (Keep (· = g) w wr) := hK
        clear hOz hf hK
        obtain ⟨W0, k0, o0, hW0⟩ : ∃ W0 k0 o0, W0 = ext wr k0 o0 ∧ W0 = wr := ⟨wr, 0, [], ext_zero wr, rfl⟩
        rw [← hW0.2]
        obtain ⟨rfl, hW02⟩ := hW0
        clear hW02
        by_cases hj0 : j = 0
        · subst hj0
          have hd : decide ((0 : Int) < ((0 : Nat) : Int)) = false := by decide
          go_wp2
          refine region_ext mixed (by kernel_rfl) ?_
          repeat (open Go.BigFrame in go_big_quiet_step ((go_at_call 5; fail)))
          refine wpQuiet_nil ?_
          rintro _ ⟨q, rfl⟩
          go_wp2
          go_roundg (n + 1 - (i + 1))
          case measure => omega
          case rel =>
            refine ⟨i + 1, zs, by omega, by omega, rfl, by go_num, OzH.out.of_block (ext_block OzH.out.lt), hPH.out, fun a b h1 h2 h3 => ?_, KH.out.trans (Ext.keep ⟨_, _, rfl⟩ _)⟩
            exact BH.out a b h1 (by omega) (by omega)
        · obtain ⟨p, rfl⟩ : ∃ p, j = p + 1 := ⟨j - 1, by omega⟩
          have hd : decide ((0 : Int) < ((p + 1 : Nat) : Int)) = true := decide_eq_true (by omega)
          have ep : IntKind.i64.wrap (((p + 1 : Nat) : Int) - 1) = (p : Int) := by rw [IntKind.wrap_i64] <;> omega
          have ip : (p : Int) < (n : Int) := by omega
          have ij : ((p + 1 : Nat) : Int) < (n : Int) := by omega
          obtain ⟨J, hJ⟩ : ∃ J : Nat, p + 1 = J := ⟨_, rfl⟩
          have hJH : Hid (p + 1 = J) := hJ
          rw [hJ] at hd ep ij ⊢
          have hdN : 0 < J := by omega
          obtain ⟨a0, a1, a2, a3, a4, a5⟩ := hR.at (i := p) (by omega)
          obtain ⟨b0, b1, b2, b3, b4, b5⟩ := hR.at (i := J) (by omega)
          have hmem : ∀ t, t < n → f t ∈ xs := fun t ht => by
            have := hfH.out
            subst this
            exact hPH.out.mem_iff.1 (nth_mem (by rw [hlenH.out]; exact ht))
          have F := fun k os => from_pl (fun w => zcmp (f p) (f J) w (okH.out _ (hmem p (by omega))) (okH.out _ (hmem J (by omega)))) wr k os
          obtain ⟨A1, L1, C1, sg1⟩ := FH.out _ (hmem p (by omega))
          obtain ⟨A2, L2, C2, sg2⟩ := FH.out _ (hmem J (by omega))
          have sg1H : Hid (_ = _) := sg1
          have sg2H : Hid (_ = _) := sg2
          clear sg1 sg2 hmem hJ hj0
          by_cases hc : 0 < cmpV (f p) (f J)
          · have hcd : decide (0 < cmpV (f p) (f J)) = true := decide_eq_true hc
            go_wp2
            refine region_ext mixed (by kernel_rfl) ?_
            repeat (open Go.BigFrame in go_big_quiet_step ((go_at_call 5; exact F _ _)))
            refine wpQuiet_nil ?_
            rintro _ ⟨q, rfl⟩
            rw [sg1H.out] at a5
            rw [sg2H.out] at b5
            have hgB : g < (ext wr q.n q.os).heap.size := Nat.lt_of_lt_of_le OzH.out.lt (Ext.keep (w := wr) (w' := ext wr q.n q.os) ⟨_, _, rfl⟩ (fun _ => False)).size
            obtain ⟨B, hB⟩ : ∃ B, (ext wr q.n q.os).heap.size = B := ⟨_, rfl⟩
            have hBH : Hid ((ext wr q.n q.os).heap.size = B) := hB
            have hbx := vbox (ext wr q.n q.os) (f J)
            rw [hB] at hgB hbx
            clear hB
            obtain ⟨W2, hW2, hE2, bx, hk2, hs2⟩ := hbx
            rw [sg2H.out] at hW2
            go_upto_region 7 with fail
            (try rw [hW2])
            rw [hBH.out]
            obtain ⟨e0, e1, e2, e3, e4, e5⟩ := bx.here
            rw [sg2H.out] at e5
            have O2 : Own W2 g cap zs := (OzH.out.of_block (w' := ext wr q.n q.os) (ext_block OzH.out.lt)).of_block (hk2 g hgB)
            have OH2 : Hid (Own W2 g cap zs) := O2
            have hR2 := O2.row
            rw [hlenH.out, hfH.out] at hR2
            obtain ⟨m0, m1, m2, m3, m4, m5⟩ := (hR2.at (i := p) (by omega)).here
            obtain ⟨n0, n1, n2, n3, n4, n5⟩ := (hR2.at (i := J) (by omega)).here
            rw [sg1H.out] at m5
            rw [sg2H.out] at n5
            have g1 : ¬ g = B := by omega
            have g2 : ¬ B = g := by omega
            have hfz : ∀ j, W2.frozen? ⟨g, j, none⟩ = false := fun j => hR2.frozen j
            have KH2 : Hid (Keep (· = g) w W2) := KH.out.trans (Ext.keep (Ext.trans ⟨_, _, rfl⟩ hE2) _)
            have hs1 := Own.set O2 J (f p) (by rw [hlenH.out]; omega)
            rw [sg1H.out] at hs1
            obtain ⟨W3, hW3⟩ : ∃ W3, (((((W2.setCell ⟨g, J * 6, none⟩ (.string ⟨#[120]⟩)).setCell ⟨g, J * 6 + 1, none⟩ (.string (str (f p).src))).setCell ⟨g, J * 6 + 2, none⟩ (.string (str (f p).tgt))).setCell ⟨g, J * 6 + 3, none⟩ (.int .u64 (f p).s)).setCell ⟨g, J * 6 + 4, none⟩ (.int .u64 (f p).t)).setCell ⟨g, J * 6 + 5, none⟩ (.slice A1 L1 C1) = W3 := ⟨_, rfl⟩
            rw [hW3] at hs1
            have OH3 : Hid (Own W3 g cap (zs.set J (f p))) := hs1
            have KH3 : Hid (Keep (· = g) W2 W3) := by
              rw [← hW3]
              exact (((((((Keep.refl _ _).setCell (by rfl) _).setCell (by rfl) _).setCell (by rfl) _).setCell (by rfl) _).setCell (by rfl) _).setCell (by rfl) _)
            have BxH : Hid (Boxed W2 B (f J)) := bx
            have hW3H : Hid (_ = W3) := hW3
            have hs2H : Hid (W2.heap.size = B + 1) := hs2
            clear hs1 hW3 O2 hR2 a0 a1 a2 a3 a4 a5 b0 b1 b2 b3 b4 b5 bx hE2 hk2 hW2 hs2 hgB F hR
            go_upto_region 8 with fail
            rw [hW3H.out]
            have hB3 : W3.heap[B]? = W2.heap[B]? := KH3.out.block B (by have := hs2H.out; omega) g2
            have kB : ∀ i, W3.cell? ⟨B, i, none⟩ = W2.cell? ⟨B, i, none⟩ := fun i => World.cell?_of_block hB3
            rw [← kB] at e0 e1 e2 e3 e4 e5
            clear kB hB3 m0 m1 m2 m3 m4 m5 n0 n1 n2 n3 n4 n5 hfz
            have hR3 := OH3.out.row
            rw [List.length_set, hlenH.out] at hR3
            obtain ⟨m0, m1, m2, m3, m4, m5⟩ := (hR3.at (i := p) (by omega)).here
            have hfz : ∀ j, W3.frozen? ⟨g, j, none⟩ = false := fun j => hR3.frozen j
            have hs2' := Own.set OH3.out p (f J) (by rw [List.length_set, hlenH.out]; omega)
            rw [sg2H.out] at hs2'
            have hsH : Hid (Own _ _ _ _) := hs2'
            clear hs2' hR3
            go_wp2
            go_roundg (p + 1)
            case measure => have := hJH.out; omega
            case rel =>
              have hJJ := hJH.out
              subst hJJ
              have hff := hfH.out
              subst hff
              refine ⟨p, _, by omega, rfl, rfl, hsH.out, (set_swap_perm zs p (by rw [hlenH.out]; omega)).trans hPH.out, BH.out.swap (by rw [hlenH.out]; omega) (by omega) hc, ?_⟩
              refine (KH2.out.trans KH3.out).trans ?_
              exact (((((((Keep.refl _ _).setCell (by rfl) _).setCell (by rfl) _).setCell (by rfl) _).setCell (by rfl) _).setCell (by rfl) _).setCell (by rfl) _)
          · have hcd : decide (0 < cmpV (f p) (f J)) = false := decide_eq_false hc
            go_wp2
            refine region_ext mixed (by kernel_rfl) ?_
            repeat (open Go.BigFrame in go_big_quiet_step ((go_at_call 5; exact F _ _)))
            refine wpQuiet_nil ?_
            rintro _ ⟨q, rfl⟩
            go_wp2
            go_roundg (n + 1 - (i + 1))
            case measure => omega
            case rel =>
              refine ⟨i + 1, zs, by omega, by omega, rfl, by go_num, OzH.out.of_block (ext_block OzH.out.lt), hPH.out, fun a b h1 h2 h3 => ?_, KH.out.trans (Ext.keep ⟨_, _, rfl⟩ _)⟩
              have hJJ := hJH.out
              by_cases hb : b = J
              · subst hb
                have hle : cmpV (nth zs p) (nth zs b) ≤ 0 := by rw [hfH.out]; omega
                by_cases hap : a = p
                · subst hap; exact hle
                · exact cmpV_le_trans (BH.out a p (by omega) (by omega) (by omega)) hle
              · exact BH.out a b h1 (by omega) (by omega)
    · have hin' : ¬ (i : Int) < (n : Int) := by omega
      go_wp2
      refine bodyPost_end (results_none rfl _ _ _) rfl ?_
      refine ⟨rfl, ⟨ys, hOy, hP, ?_⟩, hK⟩
      have := BH.out
      rwa [Nat.min_eq_right (by omega)] at this

set_option maxRecDepth 100000 in
set_option maxHeartbeats 4000000 in
theorem sort_none (a : Option Addr) (cap : Nat) (W : World) :
    Calls Yba.prog 6 #[.slice a 0 cap] W fun e w' => e = .returned (.tuple #[]) ∧ w' = W := by
  go_enter Yba.func6, Yba.ntmps6
  go_wp2
  go_loopg [2] 1 (fun k s2 wr => s2 = .int .i64 1 ∧ wr = W)
  case atStart => exact ⟨rfl, rfl⟩
  case round =>
    obtain ⟨rfl, rfl⟩ := hrel
    go_wp2
    refine bodyPost_end (results_none rfl _ _ _) rfl ?_
    exact ⟨rfl, rfl⟩

end Go.Proofs.Ybulkdink
