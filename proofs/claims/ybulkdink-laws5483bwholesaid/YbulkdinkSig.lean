import Derived.Test.YbulkdinkRow
import Derived.Lib.BytesEntry
import Derived.Laws.BytesArg
namespace Go.Proofs.Ybulkdink
open Go.ChangeShapes Go.WideShapes Go.ChangeAt Go.RowKit
set_option linter.unusedVariables false

/-- the order of two signatures -/
def sc (a b : V) : Int := Lib.compareBytes (Lib.bytesOf a.sb) (Lib.bytesOf b.sb)

theorem SigIn.cells {w : World} {v : V} {g : Nat} (hb : w.heap[g]? = some (.cells (v.sb.map (Value.int .u8)).toArray 5 (0, 0))) (i : Nat) (hi : i < v.sb.length) : w.cell? ⟨g, i, none⟩ = some (.int .u8 (v.sb.getD i 0)) := by
  rw [cell_cells hb]
  simp [hi, List.getD_eq_getElem?_getD]

theorem SigIn.bytes {P : Program} {w : World} {v : V} (h : SigIn w v) : (Extern.Bytes.bytesOf v.sg).run P w = .ok ⟨(Lib.bytesOf v.sb).toArray⟩ w := by
  rcases h with ⟨h1, h2⟩ | ⟨g, h1, hb⟩
  · rw [h1, h2]; rfl
  · rw [h1]
    have hl := Lib.run_loadBytesX (P := P) w v.sb ⟨g, 0, none⟩ .empty (fun j x hj => by
      have hjl : j < v.sb.length := (List.getElem?_eq_some_iff.1 hj).1
      rw [Addr.add_lit, Nat.zero_add, SigIn.cells hb j hjl, List.getD_eq_getElem?_getD, hj]
      rfl)
    show (Extern.Bytes.loadBytes ⟨g, 0, none⟩ v.sb.length .empty).run P w = _
    rw [hl]
    congr 1
    apply ByteArray.ext
    show (#[] : Array UInt8) ++ (Lib.bytesOf v.sb).toArray = (Lib.bytesOf v.sb).toArray
    simp

theorem run_cmp (a b : V) (w : World) (ha : SigIn w a) (hb : SigIn w b) : (callFunc 16 #[a.sg, b.sg]).run Yba.prog w = .ok (.value (.int .i64 (sc a b))) w := by
  rw [run_callFunc_extern Yba.func16 (by kernel_rfl) (by kernel_rfl) (by kernel_rfl) (e := Extern.BytealgCompare.compare) (by kernel_rfl)]
  have e1 : (Extern.BytealgCompare.compare #[a.sg, b.sg]).run Yba.prog w = .ok (.int .i64 (sc a b)) w := by
    change Sem.run Yba.prog (do pure (goInt (Extern.BytealgCompare.cmp (← Extern.Bytes.bytesOf a.sg) (← Extern.Bytes.bytesOf b.sg)))) w = _
    simp only [Sem.run_bind, Sem.run_pure, ha.bytes, hb.bytes, Result.andThen]
    rw [Lib.cmp_eq]
    rfl
  rw [e1]
  rfl

set_option maxRecDepth 100000 in
set_option maxHeartbeats 4000000 in
theorem bcmp (a b : V) (w : World) (ha : SigIn w a) (hb : SigIn w b) : Calls Yba.prog 9 #[a.sg, b.sg] w fun e w' => e = .returned (.int .i64 (sc a b)) ∧ w' = w := by
  have h := run_cmp a b w ha hb
  go_enter Yba.func9, Yba.ntmps9
  go_wp2
  go_ret
  exact ⟨rfl, rfl⟩

theorem und9 : Yba.prog.underlying 9 = some .string := by kernel_rfl
theorem und5 : Yba.prog.underlying 5 = some (.int .u8) := by kernel_rfl

theorem SigIn.conv {w : World} {v : V} (h : SigIn w v) : (convert 24 9 v.sg).run Yba.prog w = .ok (.string (strOfNums v.sb)) w := by
  rcases h with ⟨h1, h2⟩ | ⟨g, h1, hb⟩
  · rw [h1, h2, run_convert_bytes_string w 24 9 5 _ 0 0 und24 und5 und9]
    rfl
  · rw [h1]
    exact run_convert_bytes_arg w 24 5 und24 und5 g 0 v.sb.length v.sb.length v.sb rfl (fun i hi => by rw [Nat.zero_add]; exact SigIn.cells hb i hi) 9 und9

set_option maxRecDepth 100000 in
set_option maxHeartbeats 4000000 in
theorem beq_self (a : V) (w : World) (ha : SigIn w a) : Calls Yba.prog 21 #[a.sg, a.sg] w fun e w' => e = .returned (.bool true) ∧ w' = w := by
  have h := ha.conv
  go_enter Yba.func21, Yba.ntmps21
  go_wp2
  go_ret
  exact ⟨by simp, rfl⟩

set_option maxRecDepth 100000 in
set_option maxHeartbeats 4000000 in
theorem sig_any (v : V) (w : World) : Calls Yba.prog 41 #[v.val] w fun e w' => e = .returned v.sg ∧ Ext w w' := by
  go_enter Yba.func41, Yba.ntmps41
  go_wp2
  go_ret
  exact ⟨rfl, (Ext.refl w).alloc _⟩

theorem SigIn.ext {w : World} {v : V} (h : SigIn w v) (k : Nat) (os : List Obj) : SigIn (Ybulkdink.ext w k os) v := by
  rcases h with h | ⟨g, h1, hb⟩
  · exact .inl h
  · exact .inr ⟨g, h1, (ext_block (Array.getElem?_eq_some_iff.1 hb).1).trans hb⟩

end Go.Proofs.Ybulkdink
