import Derived.Test.YbulkdiomFmtCalls
namespace Go.Proofs.YbulkdiomFmt.lawS5485AWhole
open Go.ChangeShapes Go.WideShapes Go.ChangeAt Go.RowKit
open Go.Extern.Stop Go.Stop Go.Extern
set_option linter.unusedVariables false

theorem Ybaf.info9 : (Ybaf.prog.info? 9).map (fun i => (i.zero, i.size, i.bytes)) = some (some (.string ⟨#[]⟩), 1, 16) := by kernel_rfl
theorem Ybaf.info4 : (Ybaf.prog.info? 4).map (fun i => (i.zero, i.size, i.bytes)) = some (some (.bool false), 1, 1) := by kernel_rfl

/-- the call's own memory: the list of keys, the list of values, the map -/
structure St (w : World) (ka va : Option Addr) (kc vc : Nat) (ks : List ByteArray) (vs : List Bool) (D : DataW Unit) (k : Nat) (wr : World) : Prop where
  ok : wr.ownsRow (w.heap.size + 1) 9 1 (.slice ka ks.length kc) ks.length (ks.map Value.string)
  ov : wr.ownsRow (w.heap.size + 1) 4 1 (.slice va vs.length vc) vs.length (vs.map Value.bool)
  om : OwnsM wr w.heap.size k D
  held : Plain.Held D ks vs
  bel : Below w.heap.size w wr
  le : ks.length ≤ k

theorem St.lt {w : World} {ka va : Option Addr} {kc vc : Nat} {ks : List ByteArray} {vs : List Bool} {D : DataW Unit} {k : Nat} {wr : World} (h : St w ka va kc vc ks vs D k wr) : w.heap.size < wr.heap.size := h.om.lt

theorem owns_slice {w : World} {base n : Nat} {e : TypeId} {v : Value} {xs : List Value} (h : w.ownsRow base e 1 v n xs) : ∃ a c, v = .slice a n c := by
  rcases h.2 with ⟨rfl, rfl⟩ | ⟨g, cap, cur, rfl, _⟩
  · exact ⟨_, _, rfl⟩
  · exact ⟨_, _, rfl⟩

/-- a row of one type is no row of another -/
theorem rows_apart {w : World} {base base' n m : Nat} {e e' : TypeId} {v v' : Value} {xs ys : List Value} (h : w.ownsRow base e 1 v n xs) (h' : w.ownsRow base' e' 1 v' m ys) (he : e ≠ e') : v.ownBlock = none ∨ v.ownBlock ≠ v'.ownBlock := by
  rcases h.2 with ⟨rfl, rfl⟩ | ⟨g, cap, cur, rfl, _, hh, _⟩
  · exact .inl rfl
  · rcases h'.2 with ⟨rfl, rfl⟩ | ⟨g', cap', cur', rfl, _, hh', _⟩
    · exact .inr (by simp [Value.ownBlock])
    · refine .inr (fun e1 => ?_)
      simp [Value.ownBlock] at e1
      subst e1
      rw [hh] at hh'
      simp at hh'
      exact he hh'.2

theorem RdS_of {w : World} {base : Nat} {a : Option Addr} {c : Nat} {ks : List ByteArray} (h : w.ownsRow base 9 1 (.slice a ks.length c) ks.length (ks.map Value.string)) : RdS w a ks := by
  intro i s hs
  have hi : i < ks.length := (List.getElem?_eq_some_iff.1 hs).1
  rcases h.2 with ⟨e, h0⟩ | ⟨g, cap, cur, e, hb, hh, h1, h2, h3, h4⟩
  · omega
  · simp only [Value.slice.injEq] at e
    obtain ⟨rfl, _, rfl⟩ := e
    refine ⟨g, 0, rfl, ?_⟩
    rw [Nat.zero_add, h.cellAt i (by omega)]
    simp [hs]

/-- a value's cell -/
theorem val_cell {w : World} {base : Nat} {a : Option Addr} {c : Nat} {vs : List Bool} (h : w.ownsRow base 4 1 (.slice a vs.length c) vs.length (vs.map Value.bool)) {i : Nat} {b : Bool} (hs : vs[i]? = some b) :
    ∃ g, a = some ⟨g, 0, none⟩ ∧ base ≤ g ∧ w.cell? ⟨g, i, none⟩ = some (.bool b) ∧ w.frozen? ⟨g, i, none⟩ = false := by
  have hi : i < vs.length := (List.getElem?_eq_some_iff.1 hs).1
  rcases h.2 with ⟨e, h0⟩ | ⟨g, cap, cur, e, hb, hh, h1, h2, h3, h4⟩
  · omega
  · simp only [Value.slice.injEq] at e
    obtain ⟨rfl, _, rfl⟩ := e
    refine ⟨g, rfl, hb, ?_, h.frozenAt i⟩
    rw [h.cellAt i (by omega)]
    simp [hs]

/-- behind the map's store, the lists not yet turned: what holds of a world that is the old one but for new blocks and the map -/
structure Mid (w : World) (ka va : Option Addr) (kc vc : Nat) (ks : List ByteArray) (vs : List Bool) (D : DataW Unit) (k : Nat) (w1 : World) : Prop where
  ok : w1.ownsRow (w.heap.size + 1) 9 1 (.slice ka ks.length kc) ks.length (ks.map Value.string)
  ov : w1.ownsRow (w.heap.size + 1) 4 1 (.slice va vs.length vc) vs.length (vs.map Value.bool)
  om : OwnsM w1 w.heap.size k D
  bel : Below w.heap.size w w1

theorem block_ne {w : World} {base n : Nat} {e : TypeId} {v : Value} {xs : List Value} (h : w.ownsRow base e 1 v n xs) {b : Nat} (hb : b < base) : v.ownBlock = none ∨ v.ownBlock ≠ some b := by
  refine .inr (fun e => ?_)
  have := (h.lt b e).1
  omega

theorem St.mid {w : World} {ka va : Option Addr} {kc vc : Nat} {ks : List ByteArray} {vs : List Bool} {D D' : DataW Unit} {k k' : Nat} {wr w1 : World} {o : Obj} (h : St w ka va kc vc ks vs D k wr)
    (hm : OwnsM w1 w.heap.size k' D') (hg : (wr.alloc o).grownBy w1 (some w.heap.size)) : Mid w ka va kc vc ks vs D' k' w1 where
  ok := (h.ok.alloc o).kept hg (block_ne (h.ok.alloc o) (Nat.lt_succ_self _))
  ov := (h.ov.alloc o).kept hg (block_ne (h.ov.alloc o) (Nat.lt_succ_self _))
  om := hm
  bel := (h.bel.alloc (Nat.le_of_lt h.lt) o).grown hg (by have := h.lt; simp; omega) (fun k hk => by cases hk; exact Nat.le_refl _)

/-- the keys' append -/
theorem Mid.key {w : World} {ka va : Option Addr} {kc vc : Nat} {ks : List ByteArray} {vs : List Bool} {D : DataW Unit} {k : Nat} {w1 w2 : World} {o : Obj} {s : ByteArray} {v' : Value} (h : Mid w ka va kc vc ks vs D k w1)
    (ho : w2.ownsRow (w.heap.size + 1) 9 1 v' (ks.length + 1) (ks.map Value.string ++ [.string s])) (hg : (w1.alloc o).grownBy w2 (Value.slice ka ks.length kc).ownBlock) :
    ∃ ka' kc', v' = .slice ka' (ks ++ [s]).length kc' ∧ Mid w ka' va kc' vc (ks ++ [s]) vs D k w2 := by
  obtain ⟨a, c, rfl⟩ := owns_slice ho
  have hl : (ks ++ [s]).length = ks.length + 1 := by simp
  have hlt : w.heap.size < w1.heap.size := h.om.lt
  refine ⟨a, c, by rw [hl], ⟨?_, (h.ov.alloc o).kept hg (rows_apart (h.ov.alloc o) (h.ok.alloc o) (by decide)), (h.om.alloc o).kept hg (fun e => ?_), ?_⟩⟩
  · rw [hl]; simpa using ho
  · have := ((h.ok.alloc o).lt _ e.symm).1
    omega
  · exact (h.bel.alloc (Nat.le_of_lt hlt) o).grown hg (by simp; omega) (fun k hk => by have := ((h.ok.alloc o).lt k hk).1; omega)

theorem Mid.val {w : World} {ka va : Option Addr} {kc vc : Nat} {ks : List ByteArray} {vs : List Bool} {D : DataW Unit} {k : Nat} {w1 w2 : World} {o : Obj} {b : Bool} {v' : Value} (h : Mid w ka va kc vc ks vs D k w1)
    (ho : w2.ownsRow (w.heap.size + 1) 4 1 v' (vs.length + 1) (vs.map Value.bool ++ [.bool b])) (hg : (w1.alloc o).grownBy w2 (Value.slice va vs.length vc).ownBlock) :
    ∃ va' vc', v' = .slice va' (vs ++ [b]).length vc' ∧ Mid w ka va' kc vc' ks (vs ++ [b]) D k w2 := by
  obtain ⟨a, c, rfl⟩ := owns_slice ho
  have hl : (vs ++ [b]).length = vs.length + 1 := by simp
  have hlt : w.heap.size < w1.heap.size := h.om.lt
  refine ⟨a, c, by rw [hl], ⟨(h.ok.alloc o).kept hg (rows_apart (h.ok.alloc o) (h.ov.alloc o) (by decide)), ?_, (h.om.alloc o).kept hg (fun e => ?_), ?_⟩⟩
  · rw [hl]; simpa using ho
  · have := ((h.ov.alloc o).lt _ e.symm).1
    omega
  · exact (h.bel.alloc (Nat.le_of_lt hlt) o).grown hg (by simp; omega) (fun k hk => by have := ((h.ov.alloc o).lt k hk).1; omega)

theorem Mid.set {w : World} {ka : Option Addr} {g kc vc : Nat} {ks : List ByteArray} {vs : List Bool} {D : DataW Unit} {k : Nat} {w1 : World} (h : Mid w ka (some ⟨g, 0, none⟩) kc vc ks vs D k w1) (hg : w.heap.size + 1 ≤ g) {j : Nat} (hj : j < vs.length) (b : Bool) :
    Mid w ka (some ⟨g, 0, none⟩) kc vc ks (vs.set j b) D k (w1.setCell ⟨g, j, none⟩ (.bool b)) where
  ok := by
    refine ownsRow_setCell_other h.ok (fun e => ?_) _
    rcases rows_apart h.ov h.ok (by decide) with h1 | h1
    · simp [Value.ownBlock] at h1
    · exact h1 (by rw [e]; rfl)
  ov := by
    have := h.ov.stored j (.bool b)
    simpa [List.map_set] using this.1
  om := h.om.setCell (by show w.heap.size ≠ g; omega) _
  bel := h.bel.setCell (by show w.heap.size ≤ g; omega) _

theorem Mid.st {w : World} {ka va : Option Addr} {kc vc : Nat} {ks : List ByteArray} {vs : List Bool} {D : DataW Unit} {k : Nat} {w1 : World} (h : Mid w ka va kc vc ks vs D k w1) (hd : Plain.Held D ks vs) (hl : ks.length ≤ k) : St w ka va kc vc ks vs D k w1 :=
  ⟨h.ok, h.ov, h.om, hd, h.bel, hl⟩

theorem St_start (w : World) : St w none none 0 0 [] [] (.map []) 0 (w.alloc (.map #[] 0)) where
  ok := World.ownsRow_nil _ _ _ _
  ov := World.ownsRow_nil _ _ _ _
  om := World.ownsMap_made w _ _ _
  held := Plain.Inv_empty
  bel := (Below.refl _ _).alloc (Nat.le_refl _) _
  le := Nat.le_refl _

theorem lt_of_cell {W : World} {a : Addr} {v : Value} (h : W.cell? a = some v) : a.block < W.heap.size := by
  by_cases hlt : a.block < W.heap.size
  · exact hlt
  · have : W.heap[a.block]? = none := by simp; omega
    simp [World.cell?, this] at h

theorem St.toMid {w : World} {ka va : Option Addr} {kc vc : Nat} {ks : List ByteArray} {vs : List Bool} {D : DataW Unit} {k : Nat} {wr : World} (h : St w ka va kc vc ks vs D k wr) : Mid w ka va kc vc ks vs D k wr := ⟨h.ok, h.ov, h.om, h.bel⟩

theorem Mid.turned {w : World} {ka va : Option Addr} {kc vc : Nat} {ks : List ByteArray} {vs : List Bool} {D D' : DataW Unit} {k k' : Nat} {w1 w2 : World} (h : Mid w ka va kc vc ks vs D k w1)
    (hm : OwnsM w2 w.heap.size k' D') (hg : w1.grownBy w2 (some w.heap.size)) : Mid w ka va kc vc ks vs D' k' w2 where
  ok := h.ok.kept hg (block_ne h.ok (Nat.lt_succ_self _))
  ov := h.ov.kept hg (block_ne h.ov (Nat.lt_succ_self _))
  om := hm
  bel := h.bel.grown hg (by have := h.om.lt; omega) (fun k hk => by cases hk; exact Nat.le_refl _)

theorem Mid.beside {w : World} {ka va : Option Addr} {kc vc : Nat} {ks : List ByteArray} {vs : List Bool} {D : DataW Unit} {k : Nat} {w1 w2 : World} (h : Mid w ka va kc vc ks vs D k w1)
    (hg : w1.grownBy w2 none) : Mid w ka va kc vc ks vs D k w2 where
  ok := h.ok.kept hg (by cases (Value.slice ka ks.length kc).ownBlock <;> simp)
  ov := h.ov.kept hg (by cases (Value.slice va vs.length vc).ownBlock <;> simp)
  om := h.om.kept hg (by simp)
  bel := h.bel.grown hg (by have := h.om.lt; omega) (fun k hk => by cases hk)
end Go.Proofs.YbulkdiomFmt.lawS5485AWhole
