import Derived.Test.YbulkdinkMp
namespace Go.Proofs.Ybulkdink
open Go.ChangeShapes Go.WideShapes Go.ChangeAt Go.RowKit
set_option linter.unusedVariables false

def MergePost (H T : List V) (w : World) (e : Ending) (w' : World) : Prop :=
  ∃ g M, e = .returned (.slice (some ⟨g, 0, none⟩) (H.length + T.length) (H.length + T.length)) ∧ w.heap.size ≤ g ∧ Own w' g (H.length + T.length) M ∧ M.Perm (H ++ T) ∧ Srt M ∧ Keep (fun _ => False) w w'

/-- what is known of a row that is only read -/
structure Rd (w : World) (g cap : Nat) (H : List V) : Prop where
  own : Own w g cap H
  len : H.length ≤ 1000000
  ok : ∀ u ∈ H, u.Ok
  sg : ∀ u ∈ H, SgF u
  srt : Srt H

theorem Keep.into {X Y : Nat → Prop} {w w1 w2 : World} (h : Keep X w w1) (k : Keep Y w1 w2) (hY : ∀ i, i < w.heap.size → Y i → X i) : Keep X w w2 :=
  ⟨k.os.trans h.os, k.tape.trans h.tape, k.output.trans h.output, Nat.le_trans h.size k.size, fun i hi hx => (k.block i (Nat.lt_of_lt_of_le hi h.size) fun hy => hx (hY i hi hy)).trans (h.block i hi hx)⟩

theorem from_ext0 (w : World) (X : Nat → Prop) : ∀ k os, Keep X w (ext w k os) := fun k os => Ext.keep ⟨k, os, rfl⟩ X

/-- a vote more -/
theorem Own.grow {w' : World} {g N m : Nat} {M : List V} {v : V} (hm : M.length = m) (h : w'.ownsRow 0 29 6 (.slice (some ⟨g, 0, none⟩) (m + 1) N) (m + 1) (cellsOf M ++ v.list)) : Own w' g N (M ++ [v]) := by
  have e : cellsOf M ++ v.list = cellsOf (M ++ [v]) := by rw [cellsOf_append]; simp [cellsOf]
  rw [e] at h
  exact (own_of_owns h).2

theorem vnews {W : World} {B : Nat} {v : V} {fz : Nat × Nat} (hB : W.heap[B]? = some (.cells v.list.toArray 29 fz)) : ∀ j u, v.list[j]? = some u → W.cell? ((⟨B, 0, none⟩ : Addr).add j) = some u := by
  intro j u hu
  exact World.news_of_block hB j u (by simpa using hu)

/-- a vote appended within the capacity -/
theorem wpList_vote {ops : Array Oper} {rest : List Oper} {o : Oper} {a : Act} {Q : Exit → Act → World → Prop} (W : World) (g N m B : Nat) (M : List V) (v : V) {fz : Nat × Nat} (hm : M.length = m) (hO : Own W g N M) (hmN : m + 1 ≤ N) (hB : W.heap[B]? = some (.cells v.list.toArray 29 fz)) (hs : v.sg.oneCell' = true)
    (s x : Operand) (hgd : o.guard = none) (ho : o.op = Op.call { callee := Callee.builtin Builtin.append, args := #[s, x], argTypes := #[27, 27] })
    (e1 : a.eval s = .slice (some ⟨g, 0, none⟩) m N) (e2 : a.eval x = .slice (some ⟨B, 0, none⟩) 1 1)
    (hK : ∀ w', Own w' g N (M ++ [v]) → Keep (· = g) W w' → wpList Yba.prog ops Q rest (a.put o.dst (.slice (some ⟨g, 0, none⟩) (m + 1) N)) w') : wpList Yba.prog ops Q (o :: rest) a W := by
  obtain ⟨inf, hi, hz0, hz1, hz2⟩ := info_parts inf29
  have hown := hO.owns
  rw [hm] at hown
  refine wpList_append_fits W hgd s x 27 ho 0 29 inf 6 und27 hi hz1 g m N (cellsOf M) e1 hown ⟨B, 0, none⟩ 1 1 v.list e2 (by simp [V.list]) (vnews hB) (list_one v hs) hmN ?_
  intro w' h1 h2
  exact hK w' (Own.grow hm h1) ((Keep.refl _ W).grown h2 (fun k e => (Option.some.inj e).symm))

/-- what the making of a one-vote row leaves -/
theorem vlay (w : World) (v : V) : ∃ W, w.alloc (Obj.cells #[Value.string ⟨#[120]⟩, Value.string (str v.src), Value.string (str v.tgt), Value.int IntKind.u64 v.s, Value.int IntKind.u64 v.t, v.sg] 29) = W ∧ Ext w W ∧ W.heap[w.heap.size]? = some (.cells v.list.toArray 29 (0, 0)) ∧ (∀ k, k < w.heap.size → W.heap[k]? = w.heap[k]?) ∧ W.heap.size = w.heap.size + 1 :=
  ⟨_, rfl, (Ext.refl w).alloc _, Deep.blk_alloc_new _ _, fun k hk => Below.heap_alloc _ _ _ hk, by simp⟩

structure MSt (w1 wr : World) (g N : Nat) (H T M : List V) (i k m : Nat) : Prop where
  inv : MInv H T M i k
  own : Own wr g N M
  keep : Keep (· = g) w1 wr
  hi : i ≤ H.length
  hk : k ≤ T.length
  hm : M.length = m

theorem Boxed.keep {X : Nat → Prop} {W W' : World} {g : Nat} {v : V} (h : Boxed W g v) (hl : g < W.heap.size) (k : Keep X W W') (hx : ¬ X g) : Boxed W' g v := by
  obtain ⟨h0, h1, h2, h3, h4, h5⟩ := h.here
  have hl' : g < W'.heap.size := Nat.lt_of_lt_of_le hl k.size
  have e : ∀ i, W'.cell? ⟨g, i, none⟩ = W.cell? ⟨g, i, none⟩ := fun i => World.cell?_of_block (k.block g hl hx)
  exact ⟨fun n os => (ext_cell (by exact hl')).trans ((e _).trans h0), fun n os => (ext_cell (by exact hl')).trans ((e _).trans h1), fun n os => (ext_cell (by exact hl')).trans ((e _).trans h2),
    fun n os => (ext_cell (by exact hl')).trans ((e _).trans h3), fun n os => (ext_cell (by exact hl')).trans ((e _).trans h4), fun n os => (ext_cell (by exact hl')).trans ((e _).trans h5)⟩

set_option maxRecDepth 100000 in
set_option maxHeartbeats 4000000 in
theorem merge_any (gh ch gt ct : Nat) (H T : List V) (w : World) (rH : Rd w gh ch H) (rT : Rd w gt ct T) (dis : ∀ a ∈ H, ∀ b ∈ T, cmpV a b ≠ 0) :
    Calls Yba.prog 15 #[.slice (some ⟨gh, 0, none⟩) H.length ch, .slice (some ⟨gt, 0, none⟩) T.length ct, fv14] w (MergePost H T w) := by
  have RH : Hid (Rd w gh ch H) := rH
  have RT : Hid (Rd w gt ct T) := rT
  have DH : Hid (∀ a ∈ H, ∀ b ∈ T, cmpV a b ≠ 0) := dis
  have hPl := Pl.some
  clear rH rT dis
  obtain ⟨nh, hnh⟩ : ∃ n, H.length = n := ⟨_, rfl⟩
  obtain ⟨nt, hnt⟩ : ∃ n, T.length = n := ⟨_, rfl⟩
  have nhH : Hid (H.length = nh) := hnh
  have ntH : Hid (T.length = nt) := hnt
  have bh : nh ≤ 1000000 := hnh ▸ RH.out.len
  have bt : nt ≤ 1000000 := hnt ▸ RT.out.len
  rw [hnh, hnt]
  obtain ⟨N, hN⟩ : ∃ N : Nat, nh + nt = N := ⟨_, rfl⟩
  have NH : Hid (nh + nt = N) := hN
  have eN : IntKind.i64.wrap ((nh : Int) + (nt : Int)) = (N : Int) := by rw [IntKind.wrap_i64] <;> omega
  have bN : N ≤ 2000000 := by omega
  obtain ⟨inf, hi, hz0, hz1, hz2⟩ := info_parts inf29
  have hi' : Hid (Yba.prog.info? 29 = some inf) := hi
  have hz0' : Hid (_ = _) := hz0
  have hz1' : Hid (inf.size = 6) := hz1
  have hz2' : Hid (inf.bytes = 88) := hz2
  clear hnh hnt hN hi hz0 hz1 hz2
  have postH : Hid (∀ g M w', w.heap.size ≤ g → Own w' g N M → M.Perm (H ++ T) → Srt M → Keep (fun _ => False) w w' → MergePost H T w (.returned (.slice (some ⟨g, 0, none⟩) N N)) w') := fun g M w' h1 h2 h3 h4 h5 => by
    have e : H.length + T.length = N := by rw [nhH.out, ntH.out]; exact NH.out
    exact ⟨g, M, by rw [e], h1, by rw [e]; exact h2, h3, h4, h5⟩
  obtain ⟨POST, hPOST⟩ : ∃ P, MergePost H T w = P := ⟨_, rfl⟩
  rw [hPOST] at postH ⊢
  clear hPOST
  go_enter Yba.func15, Yba.ntmps15
  go_wp2_with (at_make; refine wpList_make_own _ rfl _ _ 27 rfl 0 29 inf _ 6 und27 hi'.out hz0'.out hz1'.out _ _ _ N rfl rfl rfl (by rw [hz2'.out]; omega) (by simp only [maxLen]; omega) (Nat.zero_le _) ?_; intro w1 hown hgr)
  obtain ⟨g, hg⟩ : ∃ g, w.heap.size = g := ⟨_, rfl⟩
  rw [hg] at hown ⊢
  have gH : Hid (w.heap.size = g) := hg
  have K1 : Hid (Keep (fun _ => False) w w1) := (Keep.refl _ w).grown hgr (by simp)
  have own0 := own_of_owns (xs := []) hown
  have S0 : Hid (MSt w1 w1 g N H T [] 0 0 0) := ⟨MInv.start H T, own0.2, Keep.refl _ _, Nat.zero_le _, Nat.zero_le _, rfl⟩
  have ghl : gh < g := hg ▸ RH.out.own.lt
  have gtl : gt < g := hg ▸ RT.out.own.lt
  have R1H : Hid (Own w1 gh ch H) := RH.out.own.keep K1.out (by simp)
  have R1T : Hid (Own w1 gt ct T) := RT.out.own.keep K1.out (by simp)
  clear hg hown hgr own0
  go_loopg [7, 8, 19] nt (fun d s7 s8 s19 wr => ∃ (i k m : Nat) (M : List V), d = nt - k ∧ s7 = .slice (some ⟨g, 0, none⟩) m N ∧ s8 = .int .i64 i ∧ s19 = .int .i64 k ∧ MSt w1 wr g N H T M i k m)
  case atStart => exact ⟨0, 0, 0, [], rfl, rfl, rfl, rfl, S0.out⟩
  case round =>
    obtain ⟨i, k, m, M, hd, rfl, rfl, rfl, hM⟩ := hrel
    have hdO : Hid (_ = nt - k) := hd
    have MH : Hid (MSt w1 wr g N H T M i k m) := hM
    clear hM S0
    have hki : k ≤ nt := ntH.out ▸ MH.out.hk
    by_cases hk : k < nt
    · have hk' : (k : Int) < (nt : Int) := by omega
      have RT1 : Own wr gt ct T := R1T.out.keep MH.out.keep (by omega)
      have hRT := RT1.row
      rw [ntH.out] at hRT
      obtain ⟨t0, t1, t2, t3, t4, t5⟩ := (hRT.at hk).here
      obtain ⟨r, hr⟩ : ∃ r, nth T k = r := ⟨_, rfl⟩
      have rH : Hid (nth T k = r) := hr
      rw [hr] at t1 t2 t3 t4 t5
      have rmem : r ∈ T := hr ▸ nth_mem (by rw [ntH.out]; exact hk)
      obtain ⟨A1, L1, C1, sg1⟩ := RT.out.sg r rmem
      have sg1H : Hid (r.sg = .slice A1 L1 C1) := sg1
      obtain ⟨W2, hW2, hE2, bx, hk2, hs2⟩ := vbox wr r
      obtain ⟨B, hB⟩ : ∃ B, wr.heap.size = B := ⟨_, rfl⟩
      have hBH : Hid (wr.heap.size = B) := hB
      have gB : g < B := hB ▸ MH.out.own.lt
      rw [sg1] at t5 hW2
      rw [hB] at bx
      have bxH : Hid (Boxed W2 B r) := bx
      have rmH : Hid (r ∈ T) := rmem
      have K2 : Hid (Keep (· = g) w1 W2) := MH.out.keep.trans (hE2.keep _)
      have B2 : Hid (B < W2.heap.size) := show B < W2.heap.size by omega
      have M2 : Hid (MSt w1 W2 g N H T M i k m) := ⟨MH.out.inv, MH.out.own.of_block (hk2 g (by omega)), K2.out, MH.out.hi, MH.out.hk, MH.out.hm⟩
      clear hr sg1 hB hRT RT1 bx hE2 hk2 hs2 rmem
      go_upto_region 6 with fail
      rw [hBH.out]
      clear t0 t1 t2 t3 t4 t5 hW2
      go_loopg [7, 8] (nh + 1 - i) (fun d s7 s8 wq => ∃ (i m : Nat) (M : List V), d = nh + 1 - i ∧ s7 = .slice (some ⟨g, 0, none⟩) m N ∧ s8 = .int .i64 i ∧ MSt w1 wq g N H T M i k m ∧ Keep (· = g) W2 wq)
      case atStart => exact ⟨i, m, M, rfl, rfl, rfl, M2.out, Keep.refl _ _⟩
      case round =>
        clear MH M2 hd
        obtain ⟨i, m, M, hd, rfl, rfl, hM, hKq⟩ := hrel
        have MH : Hid (MSt w1 wr g N H T M i k m) := hM
        have KqH : Hid (Keep (· = g) W2 wr) := hKq
        clear hM hKq
        have hin : i ≤ nh := nhH.out ▸ MH.out.hi
        have hmik : m = i + k := by rw [← MH.out.hm]; exact MH.out.inv.len MH.out.hi MH.out.hk
        have hmH : Hid (m = i + k) := hmik
        have hNH := NH.out
        have hmN : m + 1 ≤ N := by omega
        clear hmik hNH
        have bx : Boxed wr B r := bxH.out.keep B2.out KqH.out (by omega)
        have bxW : Hid (Boxed wr B r) := bx
        have kok := RT.out.ok r rmH.out
        obtain ⟨d0, d1, d2, d3, d4, d5⟩ := bx
        obtain ⟨W0, k0, o0, hW0⟩ : ∃ W0 k0 o0, W0 = ext wr k0 o0 ∧ W0 = wr := ⟨wr, 0, [], ext_zero wr, rfl⟩
        rw [← hW0.2]
        obtain ⟨rfl, hW02⟩ := hW0
        clear hW02
        by_cases hi : i < nh
        · have hi' : (i : Int) < (nh : Int) := by omega
          have hine : ¬ ((i : Int) = (nh : Int)) := by omega
          have hineN : ¬ (i = nh) := by omega
          have hineB : (i == nh) = false := by simp; omega
          have hineD : decide (i = nh) = false := decide_eq_false hineN
          have hineI : ((i : Int) == (nh : Int)) = false := by simp; omega
          have RH1 : Own wr gh ch H := R1H.out.keep MH.out.keep (by omega)
          have hRH := RH1.row
          rw [nhH.out] at hRH
          obtain ⟨a0, a1, a2, a3, a4, a5⟩ := hRH.at hi
          obtain ⟨x, hx⟩ : ∃ x, nth H i = x := ⟨_, rfl⟩
          have xH : Hid (nth H i = x) := hx
          rw [hx] at a1 a2 a3 a4 a5
          have xmem : x ∈ H := hx ▸ nth_mem (by rw [nhH.out]; exact hi)
          have F := fun k os => from_pl (fun w => cmpj x r w (RH.out.ok x xmem) kok) wr k os
          obtain ⟨A2, L2, C2, sg2⟩ := RH.out.sg x xmem
          have sg2H : Hid (x.sg = .slice A2 L2 C2) := sg2
          have xmH : Hid (x ∈ H) := xmem
          clear hx sg2 xmem hRH RH1
          by_cases hc : cmpV x r < 0
          · have hcd : decide (cmpV x r < 0) = true := decide_eq_true hc
            go_wp2
            refine region_ext mixed (by kernel_rfl) ?_
            repeat (open Go.BigFrame in go_big_quiet_step ((go_at_call 14; exact F _ _)))
            refine wpQuiet_nil ?_
            rintro _ ⟨q, rfl⟩
            rw [sg2H.out] at a5
            obtain ⟨W3, hW3, hE3, hB3, hk3, hs3⟩ := vlay (ext wr q.n q.os) x
            rw [sg2H.out] at hW3
            have KE : Keep (· = g) wr (ext wr q.n q.os) := from_ext0 wr _ _ _
            have O3 : Own W3 g N M := (MH.out.own.of_block (w' := ext wr q.n q.os) (ext_block MH.out.own.lt)).of_block (hk3 g (Nat.lt_of_lt_of_le MH.out.own.lt KE.size))
            have O3H : Hid (Own W3 g N M) := O3
            have K3 : Hid (Keep (· = g) wr W3) := KE.trans (hE3.keep _)
            have B3H : Hid (W3.heap[(ext wr q.n q.os).heap.size]? = some (.cells x.list.toArray 29 (0, 0))) := hB3
            clear hE3 hB3 hk3 hs3 KE O3 F
            have hone : Hid (x.sg.oneCell' = true) := by have := sg2H.out; show x.sg.oneCell' = true; rw [this]; rfl
            go_wp2_with (at_builtin; refine wpList_vote W3 g N m (ext wr q.n q.os).heap.size M x MH.out.hm O3H.out hmN B3H.out hone.out (.tmp 37) (.tmp 42) rfl rfl rfl rfl ?_; intro w4 hO4 hK4)
            go_roundg (nh + 1 - (i + 1))
            case measure => omega
            case rel =>
              refine ⟨i + 1, m + 1, M ++ [x], rfl, rfl, by go_num, ⟨?_, hO4, (MH.out.keep.trans K3.out).trans hK4, by rw [nhH.out]; omega, MH.out.hk, by simp [MH.out.hm]⟩, (KqH.out.trans K3.out).trans hK4⟩
              have e1 := xH.out
              have e2 := rH.out
              subst e1
              subst e2
              exact MH.out.inv.takeH RH.out.srt RT.out.srt (by rw [nhH.out]; exact hi) (by rw [ntH.out]; exact hk) hc
          · have hcd : decide (cmpV x r < 0) = false := decide_eq_false hc
            have hne : ¬ cmpV x r = 0 := DH.out x xmH.out r rmH.out
            have hneb : (cmpV x r == 0) = false := by simp [hne]
            go_wp2
            refine region_ext mixed (by kernel_rfl) ?_
            repeat (open Go.BigFrame in go_big_quiet_step ((go_at_call 14; exact F _ _)))
            refine wpQuiet_nil ?_
            rintro _ ⟨q, rfl⟩
            go_wp2
            refine region_ext mixed (by kernel_rfl) ?_
            repeat (open Go.BigFrame in go_big_quiet_step ((go_at_call 14; exact F _ _)))
            refine wpQuiet_nil ?_
            rintro _ ⟨q2, rfl⟩
            rw [sg2H.out] at a5
            clear F
            obtain ⟨W3, hW3, hE3, hB3, hk3, hs3⟩ := vlay (ext wr q2.n q2.os) r
            rw [sg1H.out] at hW3 d5
            have KE : Keep (· = g) wr (ext wr q2.n q2.os) := from_ext0 wr _ _ _
            have O3 : Own W3 g N M := (MH.out.own.of_block (w' := ext wr q2.n q2.os) (ext_block MH.out.own.lt)).of_block (hk3 g (Nat.lt_of_lt_of_le MH.out.own.lt KE.size))
            have O3H : Hid (Own W3 g N M) := O3
            have K3 : Hid (Keep (· = g) wr W3) := KE.trans (hE3.keep _)
            have B3H : Hid (W3.heap[(ext wr q2.n q2.os).heap.size]? = some (.cells r.list.toArray 29 (0, 0))) := hB3
            clear hE3 hB3 hk3 hs3 KE O3
            have hone : Hid (r.sg.oneCell' = true) := by have := sg1H.out; show r.sg.oneCell' = true; rw [this]; rfl
            go_wp2_with (at_builtin; refine wpList_vote W3 g N m (ext wr q2.n q2.os).heap.size M r MH.out.hm O3H.out hmN B3H.out hone.out (.tmp 60) (.tmp 62) rfl rfl rfl rfl ?_; intro w4 hO4 hK4)
            go_roundg (nt - (k + 1))
            case measure => have := hdO.out; omega
            case rel =>
              refine ⟨i, k + 1, m + 1, M ++ [r], rfl, rfl, rfl, by go_num, ⟨?_, hO4, (MH.out.keep.trans K3.out).trans hK4, MH.out.hi, by rw [ntH.out]; omega, by simp [MH.out.hm]⟩⟩
              have e2 := rH.out
              subst e2
              refine MH.out.inv.takeT RH.out.srt RT.out.srt (by rw [ntH.out]; exact hk) fun hil => ?_
              rw [xH.out]
              exact cmpV_lt_of x _ hne (by omega)
        · have hi' : decide ((i : Int) < (nh : Int)) = false := decide_eq_false (by omega)
          have hiN : ¬ i < nh := hi
          obtain rfl : i = nh := by omega
          go_wp2
          refine region_ext mixed (by kernel_rfl) ?_
          repeat (open Go.BigFrame in go_big_quiet_step ((go_at_call 14; fail)))
          refine wpQuiet_nil ?_
          rintro _ ⟨q, rfl⟩
          go_wp2
          refine region_ext mixed (by kernel_rfl) ?_
          repeat (open Go.BigFrame in go_big_quiet_step ((go_at_call 14; fail)))
          refine wpQuiet_nil ?_
          rintro _ ⟨q2, rfl⟩
          obtain ⟨W3, hW3, hE3, hB3, hk3, hs3⟩ := vlay (ext wr q2.n q2.os) r
          rw [sg1H.out] at hW3 d5
          have KE : Keep (· = g) wr (ext wr q2.n q2.os) := from_ext0 wr _ _ _
          have O3 : Own W3 g N M := (MH.out.own.of_block (w' := ext wr q2.n q2.os) (ext_block MH.out.own.lt)).of_block (hk3 g (Nat.lt_of_lt_of_le MH.out.own.lt KE.size))
          have O3H : Hid (Own W3 g N M) := O3
          have K3 : Hid (Keep (· = g) wr W3) := KE.trans (hE3.keep _)
          have B3H : Hid (W3.heap[(ext wr q2.n q2.os).heap.size]? = some (.cells r.list.toArray 29 (0, 0))) := hB3
          clear hE3 hB3 hk3 hs3 KE O3
          have hone : Hid (r.sg.oneCell' = true) := by have := sg1H.out; show r.sg.oneCell' = true; rw [this]; rfl
          go_wp2_with (at_builtin; refine wpList_vote W3 g N m (ext wr q2.n q2.os).heap.size M r MH.out.hm O3H.out hmN B3H.out hone.out (.tmp 60) (.tmp 62) rfl rfl rfl rfl ?_; intro w4 hO4 hK4)
          go_roundg (nt - (k + 1))
          case measure => have := hdO.out; omega
          case rel =>
            refine ⟨i, k + 1, m + 1, M ++ [r], rfl, rfl, rfl, by go_num, ⟨?_, hO4, (MH.out.keep.trans K3.out).trans hK4, MH.out.hi, by rw [ntH.out]; omega, by simp [MH.out.hm]⟩⟩
            have e2 := rH.out
            subst e2
            refine MH.out.inv.takeT RH.out.srt RT.out.srt (by rw [ntH.out]; exact hk) fun hil => ?_
            have := nhH.out
            omega
    · have hk' : ¬ ((k : Int) < (nt : Int)) := by omega
      have hin : i ≤ nh := nhH.out ▸ MH.out.hi
      have hin' : (i : Int) ≤ (nh : Int) := by omega
      obtain rfl : k = nt := by omega
      have hmik : m = i + k := by rw [← MH.out.hm]; exact MH.out.inv.len MH.out.hi MH.out.hk
      have hmH : Hid (m = i + k) := hmik
      have hNH := NH.out
      have hmN : m + (nh - i) = N := by omega
      have hmNH : Hid (m + (nh - i) = N) := hmN
      have RH1 : Own wr gh ch H := R1H.out.keep MH.out.keep (by omega)
      have RH1H : Hid (Own wr gh ch H) := RH1
      have hch : nh ≤ ch := by obtain ⟨_, _, h, _⟩ := RH1; rw [nhH.out] at h; exact h
      have hich : (i : Int) ≤ (ch : Int) := by omega
      have hown : Hid (wr.ownsRow 0 29 6 (.slice (some ⟨g, 0, none⟩) m N) m (cellsOf M)) := by have := MH.out.own.owns; rw [MH.out.hm] at this; exact this
      clear hmik hNH hmN RH1
      have P1 : Hid ((cellsOf (H.drop i)).length = (nh - i) * 6) := by
        have := cellsOf_length (H.drop i)
        rw [List.length_drop, nhH.out] at this
        exact this
      have P2 : Hid (∀ (j : Nat) (u : Value), (cellsOf (H.drop i))[j]? = some u → wr.cell? ⟨gh, i * 6 + j, none⟩ = some u) := fun j u hu => by
        have hj : j < (nh - i) * 6 := by rw [← P1.out]; exact (List.getElem?_eq_some_iff.1 hu).1
        have hsplit : cellsOf H = cellsOf (H.take i) ++ cellsOf (H.drop i) := by rw [← cellsOf_append, List.take_append_drop]
        have hl : (cellsOf (H.take i)).length = i * 6 := by rw [cellsOf_length, List.length_take, nhH.out, Nat.min_eq_left hin]
        have hu2 : (cellsOf H)[i * 6 + j]? = some u := by
          rw [hsplit, List.getElem?_append_right (by omega), hl, Nat.add_sub_cancel_left]; exact hu
        obtain ⟨cur, hb, _, _, _, ht⟩ := RH1H.out
        rw [cell_cells hb]
        rw [← ht, List.getElem?_take, if_pos (by rw [nhH.out]; omega)] at hu2
        simpa using hu2
      have P4 : Hid (∀ u ∈ cellsOf (H.drop i), u.oneCell' = true) := fun u hu => by
        obtain ⟨v, hv, hu⟩ := List.mem_flatMap.1 hu
        obtain ⟨A, L, C, e⟩ := RH.out.sg v (List.mem_of_mem_drop hv)
        exact list_one v (by rw [e]; rfl) u hu
      go_wp2_with (at_builtin; refine wpList_append_fits_any wr rfl (.tmp 65) (.tmp 68) 27 rfl 0 29 inf 6 und27 hi'.out hz1'.out g m N (cellsOf M) rfl hown.out _ _ _ (cellsOf (H.drop i)) rfl P1.out ?_ ?_ P4.out (by have := hmNH.out; omega) ?_)
      · rename_i hci
        intro j u hu
        have : j < (nh - i) * 6 := by rw [← P1.out]; exact (List.getElem?_eq_some_iff.1 hu).1
        omega
      · exact P2.out
      all_goals
        intro w4 hO4 hgr4
        have e : m + (nh - i) = N := hmNH.out
        rw [e] at hO4 ⊢
        rw [← cellsOf_append] at hO4
        have hF := MH.out.inv
        rw [← ntH.out] at hF
        obtain ⟨hP, hSr⟩ := hF.finish RH.out.srt
        have KK := (MH.out.keep.trans ((Keep.refl _ wr).grown hgr4 (fun k e => (Option.some.inj e).symm)))
        have KF : Keep (fun _ => False) w w4 := K1.out.into KK (fun i hi e => by have := gH.out; omega)
        have hpost := postH.out g _ w4 (by have := gH.out; omega) (own_of_owns hO4).2 hP hSr KF
        clear hO4 hgr4 hP hSr KK KF e hF
        go_wp2
        exact hpost

end Go.Proofs.Ybulkdink
