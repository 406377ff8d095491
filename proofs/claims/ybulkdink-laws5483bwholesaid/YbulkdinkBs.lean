import Derived.Test.YbulkdinkOrd
namespace Go.Proofs.Ybulkdink
open Go.ChangeShapes Go.WideShapes Go.ChangeAt Go.RowKit
set_option linter.unusedVariables false

abbrev fv14 : Value := .func (.func 14) #[] #[]

theorem half_wrap (i j : Nat) (h : i + j ≤ 4000000) : ((i : Int) + (j : Int)) / 2 = (((i + j) / 2 : Nat) : Int) := by omega

set_option maxRecDepth 100000 in
set_option maxHeartbeats 4000000 in
theorem bsearch (g n cap : Nat) (f : Nat → V) (v : V) (w : World) (hn : n ≤ 1000000) (hR0 : VRow w g n f) (hok : ∀ i, i < n → (f i).Ok) (hv : v.Ok)
    (hsort : ∀ i j, i < j → j < n → cmpV (f i) (f j) < 0) :
    Calls Yba.prog 22 #[.slice (some ⟨g, 0, none⟩) n cap, v.val, fv14] w fun e w' =>
      (∃ (p : Nat) (b : Bool), e = .returned (.tuple #[.int .i64 p, .bool b]) ∧ (b = true → p < n ∧ cmpV (f p) v = 0) ∧ (b = false → ∀ i, i < n → cmpV (f i) v ≠ 0)) ∧ Ext w w' := by
  have hsortH : Hid (∀ i j, i < j → j < n → cmpV (f i) (f j) < 0) := hsort
  have hokH : Hid (∀ i, i < n → (f i).Ok) := hok
  clear hsort hok
  have hPl := Pl.some
  go_enter Yba.func22, Yba.ntmps22
  go_upto_region 1 with fail
  obtain ⟨W, hW⟩ : ∃ W, w.alloc (Obj.cells #[Value.string ⟨#[120]⟩, Value.string (str v.src), Value.string (str v.tgt), Value.int IntKind.u64 v.s, Value.int IntKind.u64 v.t, v.sg] 29) = W := ⟨_, rfl⟩
  have hE : Ext w W := hW ▸ (Ext.refl w).alloc _
  obtain ⟨gb, hgb⟩ : ∃ gb, w.heap.size = gb := ⟨_, rfl⟩
  have bB : Boxed W gb v := Boxed.mk' (by rw [← hW, ← hgb]; exact Deep.blk_alloc_new _ _)
  have hR : VRow W g n f := hW ▸ hR0.of_block (Below.heap_alloc _ _ _ hR0.lt)
  rw [hW, hgb]
  clear hR0 hW
  obtain ⟨d0, d1, d2, d3, d4, d5⟩ := bB
  go_wp2
  go_loopg [9, 10, 11] n (fun k s9 s10 s11 wr => ∃ (i j m : Nat) (os : List Obj), i ≤ j ∧ j ≤ n ∧ k = j - i ∧ s9 = .int .i64 i ∧ s10 = .int .i64 j ∧ (∀ t, t < i → cmpV (f t) v < 0) ∧ (∀ t, j ≤ t → t < n → 0 ≤ cmpV (f t) v) ∧ wr = ext W m os)
  case atStart => exact ⟨0, n, 0, [], by omega, by omega, rfl, rfl, rfl, by omega, by omega, ext_zero W⟩
  case round =>
    obtain ⟨i, j, m, os, hij, hjn, hk, rfl, rfl, hlo0, hhi0, rfl⟩ := hrel
    have hloH : Hid (∀ t, t < i → cmpV (f t) v < 0) := hlo0
    have hhiH : Hid (∀ t, j ≤ t → t < n → 0 ≤ cmpV (f t) v) := hhi0
    clear hlo0 hhi0
    by_cases hlt : i < j
    · have hlt' : (i : Int) < (j : Int) := by omega
      obtain ⟨h, hh⟩ : ∃ h : Nat, ((i : Int) + (j : Int)) / 2 = (h : Int) := ⟨(i + j) / 2, by omega⟩
      have hh1 : i ≤ h ∧ h < j := by omega
      have hhn : h < n := by omega
      have wp : IntKind.i64.wrap (h : Int) = (h : Int) := by rw [IntKind.wrap_i64]; omega
      obtain ⟨a0, a1, a2, a3, a4, a5⟩ := hR.at hhn
      have F := fun k os => from_pl (fun w => cmpj (f h) v w (hokH.out h hhn) hv) W k os
      go_wp2
      refine region_ext mixed (by kernel_rfl) ?_
      repeat (open Go.BigFrame in go_big_quiet_step ((go_at_call 14; exact F _ _)))
      refine wpQuiet_nil ?_
      rintro _ ⟨q, rfl⟩
      by_cases hc : cmpV (f h) v < 0
      · go_wp2
        go_roundg (j - (h + 1))
        case measure => omega
        case rel =>
          refine ⟨h + 1, j, _, _, by omega, hjn, rfl, by go_num, rfl, fun t ht => ?_, hhiH.out, rfl⟩
          by_cases e : t = h
          · subst e; exact hc
          · by_cases e2 : t < i
            · exact hloH.out t e2
            · exact cmpV_trans (hsortH.out t h (by omega) hhn) (by omega)
      · go_wp2
        go_roundg (h - i)
        case measure => omega
        case rel =>
          refine ⟨i, h, _, _, by omega, by omega, rfl, rfl, rfl, hloH.out, fun t h1 h2 => ?_, rfl⟩
          by_cases e : h = t
          · subst e; omega
          · have h3 := hsortH.out h t (by omega) h2
            rcases Int.lt_or_le (cmpV (f t) v) 0 with h4 | h4
            · exact absurd (cmpV_trans (c := v) h3 (by omega)) (by omega)
            · exact h4
    · have hlt' : ¬ ((i : Int) < (j : Int)) := by omega
      obtain rfl : i = j := by omega
      by_cases hin : i < n
      · have hin' : (i : Int) < (n : Int) := by omega
        obtain ⟨a0, a1, a2, a3, a4, a5⟩ := hR.at hin
        have F := fun k os => from_pl (fun w => cmpj (f i) v w (hokH.out i hin) hv) W k os
        go_wp2
        refine region_ext mixed (by kernel_rfl) ?_
        repeat (open Go.BigFrame in go_big_quiet_step ((go_at_call 14; exact F _ _)))
        refine wpQuiet_nil ?_
        rintro _ ⟨q, rfl⟩
        go_wp2
        go_ret2
        refine ⟨⟨i, (cmpV (f i) v == 0), rfl, fun hb => ⟨hin, by simpa using hb⟩, fun hb t ht => ?_⟩, hE.trans ⟨_, _, rfl⟩⟩
        have hne : cmpV (f i) v ≠ 0 := by simpa using hb
        rcases Nat.lt_trichotomy t i with h1 | h1 | h1
        · have := hloH.out t h1; omega
        · subst h1; exact hne
        · have h2 := hhiH.out i (Nat.le_refl _) hin
          have h3 := hsortH.out i t h1 ht
          intro h0
          have h4 : cmpV (f i) v < 0 := cmpV_trans h3 (by omega)
          omega
      · have hin' : decide ((i : Int) < (n : Int)) = false := decide_eq_false (by omega)
        have F : ∀ (k : Nat) (os : List Obj), True := fun _ _ => trivial
        go_wp2
        refine region_ext mixed (by kernel_rfl) ?_
        repeat (open Go.BigFrame in go_big_quiet_step ((go_at_call 14; fail)))
        refine wpQuiet_nil ?_
        rintro _ ⟨q, rfl⟩
        go_wp2
        go_ret2
        refine ⟨⟨i, false, rfl, fun hb => (by cases hb), fun _ t ht => ?_⟩, hE.trans ⟨_, _, rfl⟩⟩
        have := hloH.out t (by omega)
        omega

end Go.Proofs.Ybulkdink
