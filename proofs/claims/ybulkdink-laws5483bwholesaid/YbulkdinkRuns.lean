import Derived.Test.YbulkdinkT21
namespace Go.Proofs.Ybulkdink
open Go.ChangeShapes Go.WideShapes Go.ChangeAt Go.RowKit
set_option linter.unusedVariables false
set_option linter.unusedSimpArgs false

/-- the rows of which runs are copied -/
structure Src (lo : Nat) (w : World) (pv : Value) (n : Nat) (G C : Nat → Nat) (R : Nat → List V) : Prop where
  runs : Runs lo w pv n G C R
  sg : ∀ i, i < n → ∀ u ∈ R i, SgF u
  ne : ∀ i, i < n → 0 < (R i).length
  len : ∀ i, i < n → (R i).length ≤ 1000000
  nb : n ≤ 1000000

def RunsPost (w : World) (n : Nat) (R : Nat → List V) (e : Ending) (w' : World) : Prop :=
  ∃ go G' C', e = .returned (.slice (some ⟨go, 0, none⟩) n n) ∧ Runs w.heap.size w' (.slice (some ⟨go, 0, none⟩) n n) n G' C' R ∧ Keep (fun _ => False) w w'

/-- some of the runs are copied -/
structure Part (w wr : World) (go n i : Nat) (G' C' : Nat → Nat) (R : Nat → List V) : Prop where
  hi : i ≤ n
  own : wr.ownsRow w.heap.size 27 1 (.slice (some ⟨go, 0, none⟩) n n) n (ents G' C' R i ++ List.replicate (n - i) (.slice none 0 0))
  rows : ∀ j, j < i → Own wr (G' j) (C' j) (R j)
  gb : ∀ j, j < i → w.heap.size ≤ G' j
  inj : ∀ j k, j < k → k < i → G' j ≠ G' k
  keep : Keep (fun _ => False) w wr

theorem madeCells_one (n : Nat) (z : Value) : (madeCells #[z] (n * 1)).toList = List.replicate n z := by
  rw [Nat.mul_one]
  apply List.ext_getElem?
  intro i
  by_cases h : i < n
  · simp [madeCells, h, Nat.mod_one]
  · simp [madeCells, h]

set_option maxRecDepth 100000 in
set_option maxHeartbeats 8000000 in
theorem runs_any (lo : Nat) (pv : Value) (n : Nat) (G C : Nat → Nat) (R : Nat → List V) (w : World) (S : Src lo w pv n G C R) :
    Calls Yba.prog 8 #[pv] w (RunsPost w n R) := by
  have SH : Hid (Src lo w pv n G C R) := S
  clear S
  obtain ⟨ap, cp, rfl⟩ := owns_form SH.out.runs.own
  obtain ⟨POST, hPOST⟩ : ∃ P, RunsPost w n R = P := ⟨_, rfl⟩
  have postH : Hid (∀ e w', RunsPost w n R e w' → POST e w') := fun e w' hh => hPOST ▸ hh
  rw [hPOST]
  clear hPOST
  have hnb := SH.out.nb
  obtain ⟨inf, hi, hz0, hz1, hz2⟩ := info_parts inf27
  have infs : Hid (Yba.prog.info? 27 = some inf ∧ inf.zero = some (.slice none 0 0) ∧ inf.size = 1 ∧ inf.bytes = 24) := ⟨hi, hz0, hz1, hz2⟩
  obtain ⟨in2, ki, kz0, kz1, kz2⟩ := info_parts inf29
  have infv : Hid (Yba.prog.info? 29 = some in2 ∧ in2.zero = some (.agg #[.string ⟨#[]⟩, .string ⟨#[]⟩, .string ⟨#[]⟩, .int .u64 0, .int .u64 0, .slice none 0 0]) ∧ in2.size = 6 ∧ in2.bytes = 88) := ⟨ki, kz0, kz1, kz2⟩
  clear hi hz0 hz1 hz2 ki kz0 kz1 kz2
  go_enter Yba.func8, Yba.ntmps8
  go_wp2_with (at_make; refine wpList_make_full _ rfl _ _ 34 rfl w.heap.size 27 inf _ 1 und34 infs.out.1 infs.out.2.1 infs.out.2.2.1 _ _ _ _ n rfl rfl rfl rfl (by rw [infs.out.2.2.2]; omega) (by simp only [maxLen]; omega) (Nat.le_refl _) ?_; intro w1 hown hgr)
  obtain ⟨go, hgo⟩ : ∃ g, w.heap.size = g := ⟨_, rfl⟩
  have goH : Hid (w.heap.size = go) := hgo
  have P0 : Hid (Part w w1 go n 0 (fun _ => 0) (fun _ => 0) R) := by
    refine ⟨Nat.zero_le _, ?_, by intro j hj; omega, by intro j hj; omega, by intro j k h1 h2; omega, (Keep.refl _ w).grown hgr (by simp)⟩
    have e : (madeCells (Value.slice none 0 0).cells (n * 1)).toList = ents (fun _ => 0) (fun _ => 0) R 0 ++ List.replicate (n - 0) (.slice none 0 0) := by
      simp only [ents, List.range_zero, List.map_nil, List.nil_append, Nat.sub_zero]
      exact madeCells_one n _
    rw [e] at hown
    rw [← hgo]
    exact hown
  rw [hgo]
  clear hgo hown hgr
  go_loopg [4] n (fun d s4 wr => ∃ (i : Nat) (G' C' : Nat → Nat), d = n - i ∧ s4 = .int .i64 i ∧ Part w wr go n i G' C' R)
  case atStart => exact ⟨0, _, _, rfl, rfl, P0.out⟩
  case round =>
    obtain ⟨i, G', C', hd, rfl, hP⟩ := hrel
    have PH : Hid (Part w wr go n i G' C' R) := hP
    have hin := hP.hi
    clear hP P0
    by_cases hi : i < n
    · have hi' : (i : Int) < (n : Int) := by omega
      obtain ⟨gp, cp', hpf, _, hgpl⟩ := SH.out.runs.own.form (by omega)
      cases hpf
      have hS0 := SH.out.runs.pcell i hi 0 []
      rw [← ext_zero] at hS0
      have pc : wr.cell? ⟨gp, i, none⟩ = some (ent G C R i) := (World.cell?_of_block (w := w) (PH.out.keep.block gp hgpl id)).trans hS0
      have hO : Own wr (G i) (C i) (R i) := (SH.out.runs.rows i hi).keep PH.out.keep id
      obtain ⟨l, hl⟩ : ∃ l, (R i).length = l := ⟨_, rfl⟩
      have lH : Hid ((R i).length = l) := hl
      have hl0 : 0 < l := hl ▸ SH.out.ne i hi
      have hlb : l ≤ 1000000 := hl ▸ SH.out.len i hi
      simp only [ent, hl] at pc
      have news : Hid (∀ j u, (cellsOf (R i))[j]? = some u → wr.cell? ((⟨G i, 0, none⟩ : Addr).add j) = some u) := by
        have h1 := hO.owns
        exact h1.cells (g := G i) rfl
      have nl : Hid ((cellsOf (R i)).length = l * 6) := by have := cellsOf_length (R i); rw [hl] at this; exact this
      have one : Hid (∀ u ∈ cellsOf (R i), u.oneCell' = true) := fun u hu => by
        obtain ⟨v, hv, hu⟩ := List.mem_flatMap.1 hu
        obtain ⟨A, L, Cc, e⟩ := SH.out.sg i hi v hv
        exact list_one v (by rw [e]; rfl) u hu
      have hlow : Hid (w.heap.size ≤ wr.heap.size) := PH.out.keep.size
      obtain ⟨cgo, hgob⟩ := owns_type PH.out.own (k := go) rfl
      have gol : go < wr.heap.size := (PH.out.own.lt go rfl).2
      have nx : Hid (∀ w2, wr.grownBy w2 (Value.ownBlock (.slice none 0 0)) → (∃ u, w2.cell? ⟨go, i, none⟩ = some u) ∧ w2.frozen? ⟨go, i, none⟩ = false ∧ Keep (fun _ => False) wr w2) := fun w2 hg => by
        have K : Keep (fun _ => False) wr w2 := (Keep.refl _ wr).grown hg (by simp [Value.ownBlock])
        have hb : w2.heap[go]? = some (.cells cgo 27 (0, 0)) := (K.block go gol id).trans hgob
        refine ⟨?_, by simp [World.frozen?, hb], K⟩
        have h1 := PH.out.own.cells (g := go) rfl i
        have h2 : (ents G' C' R i ++ List.replicate (n - i) (.slice none 0 0))[i]? = some (.slice none 0 0) := by
          rw [List.getElem?_append_right (by rw [ents_length]; omega), ents_length, Nat.sub_self, List.getElem?_replicate, if_pos (by omega)]
        have h3 := h1 _ h2
        rw [Addr.add_lit, Nat.zero_add] at h3
        exact ⟨_, (World.cell?_of_block (w := wr) (K.block go gol id)).trans h3⟩
      clear hO hl hgob hS0
      go_wp2_with (at_builtin; refine wpList_append_lies wr rfl (.const (.slice none 0 0)) (.tmp 19) 27 rfl w.heap.size 29 in2 _ 6 88 und27 infv.out.1 infv.out.2.1 infv.out.2.2.1 infv.out.2.2.2 rfl (by omega) (.slice none 0 0) 0 [] rfl (World.ownsRow_nil _ _ _ _) ⟨G i, 0, none⟩ l (C i) (cellsOf (R i)) rfl nl.out news.out one.out hl0 (by simp only [maxLen]; omega) (by omega) hlow.out wr.heap.size rfl ?_; intro g2 cap2 w2 hown2 hgr2 hat2 hlt2; obtain ⟨⟨u, hu⟩, hf2, hK2⟩ := nx.out w2 hgr2)
      go_roundg (n - (i + 1))
      case measure => omega
      case rel =>
        have eg : g2 = wr.heap.size := by
          rcases hat2 with e | e
          · simp [Value.ownBlock] at e
          · exact e
        have gng : g2 ≠ go := by omega
        have hO2 : Own w2 g2 cap2 (R i) := by
          have h1 := owns_zero hown2
          rw [Nat.zero_add, List.nil_append, ← lH.out] at h1
          exact (own_of_owns h1).2
        have KS : Keep (fun k => k = go) wr (w2.setCell ⟨go, i, none⟩ (.slice (some ⟨g2, 0, none⟩) l cap2)) := (hK2.weak (fun _ _ e => e.elim)).setCell (by rfl) _
        refine ⟨i + 1, upd G' i g2, upd C' i cap2, rfl, by go_num, ⟨by omega, ?_, ?_, ?_, ?_, ?_⟩⟩
        · have h1 : w2.ownsRow w.heap.size 27 1 (.slice (some ⟨go, 0, none⟩) n n) n (ents G' C' R i ++ List.replicate (n - i) (.slice none 0 0)) := owns_of_block PH.out.own fun k hk => by cases hk; exact hK2.block go gol id
          have h2 := owns_set1 h1 i hi (.slice (some ⟨g2, 0, none⟩) l cap2)
          have e : (ents G' C' R i ++ List.replicate (n - i) (Value.slice none 0 0)).set i (.slice (some ⟨g2, 0, none⟩) l cap2) = ents (upd G' i g2) (upd C' i cap2) R (i + 1) ++ List.replicate (n - (i + 1)) (.slice none 0 0) := by
            rw [List.set_append_right _ _ (by rw [ents_length]; omega), ents_length, Nat.sub_self, show n - i = (n - (i + 1)) + 1 by omega, List.replicate_succ, List.set_cons_zero, ents_succ, List.append_assoc]
            congr 1
            · exact ents_congr fun j hj => by simp [ent, upd, show j ≠ i by omega]
            · simp [ent, upd, lH.out]
          rw [e] at h2
          exact h2
        · intro j hj
          by_cases e : j = i
          · subst e
            rw [upd_same, upd_same]
            exact hO2.of_block (Below.heap_setCell _ _ _ _ (by exact gng))
          · rw [upd_ne _ _ _ _ e, upd_ne _ _ _ _ e]
            have hOj := PH.out.rows j (by omega)
            refine hOj.keep KS fun e2 => ?_
            obtain ⟨c, hb, _⟩ := hOj
            obtain ⟨c2, hb2⟩ := owns_type PH.out.own (k := go) rfl
            rw [e2, hb2] at hb; simp at hb
        · intro j hj
          by_cases e : j = i
          · subst e; rw [upd_same]; have := hlow.out; omega
          · rw [upd_ne _ _ _ _ e]; exact PH.out.gb j (by omega)
        · intro j k hjk hk
          rw [upd_ne _ _ j _ (by omega)]
          by_cases e : k = i
          · subst e; rw [upd_same]; intro e2; have := (PH.out.rows j hjk).lt; omega
          · rw [upd_ne _ _ _ _ e]; exact PH.out.inj j k hjk (by omega)
        · exact PH.out.keep.into KS fun k hk e => by have := goH.out; omega
    · have hi' : ¬ (i : Int) < (n : Int) := by omega
      go_wp2
      refine postH.out _ _ ⟨go, G', C', rfl, ?_, PH.out.keep⟩
      have e : i = n := by omega
      subst e
      have ho := PH.out.own
      rw [Nat.sub_self, List.replicate_zero, List.append_nil] at ho
      exact ⟨ho, PH.out.rows, PH.out.gb, PH.out.inj⟩

end Go.Proofs.Ybulkdink
