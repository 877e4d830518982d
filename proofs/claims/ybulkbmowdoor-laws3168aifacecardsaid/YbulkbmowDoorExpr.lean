/-
  numbering.expr at a variable.
-/
import Derived.Test.YbulkbmowDoorSig
namespace Go.Proofs.YbulkbmowDoor
open Go.RowKit Go

theorem assert57 (u : Value) (W : World) : (Instr.typeAssert (.iface 57 u) 62 57 true).run Ybad.prog W = .ok (.tuple #[u, .bool true]) W := by kernel_rfl

set_option maxRecDepth 100000 in
set_option maxHeartbeats 1000000 in
theorem expr_var (L B b V : Nat) (acc x : ByteArray) (w : World) (p : NBlk) (t0 t1 t2 n0 n1 n2 : Int) (ms sv vv : Value) (names vars : List ByteArray) (hv : Scope w vv vars) (hvl : vars.length ≤ 1000) (hV : w.heap[V]? = some (.cells #[.int .i64 0, .int .i64 0, .string x] 58 (0, 0))) (h : Env L B b acc w p t0 t1 t2 n0 n1 n2 ms sv names) (hsz : acc.size ≤ 900000000000) :
    Calls Ybad.prog 43 #[p.val, .pointer (some ⟨b, 0, none⟩), .iface 57 (.pointer (some ⟨V, 0, none⟩)), vv, sv] w fun e w' => e = .returned (.tuple #[]) ∧ Bd B b (acc ++ (⟨#[118]⟩ ++ num (Lib.idxOfS vars x))) w' ∧ Fr B b w w' := by
  have hbx := (Below.refl w.heap.size w).alloc (Nat.le_refl _) (Obj.cells #[Value.pointer (some { block := p.sh, off := 0 }), Value.slice (some { block := p.tb, off := 0 }) 3 3, Value.slice (some { block := p.nb, off := 0 }) 3 3] 75)
  have hlo : -1 ≤ Lib.idxOfS vars x ∧ Lib.idxOfS vars x ≤ (0 + vars.length : Nat) := idx_lo x vars 0
  have HX : Hid (Env L B b acc _ p t0 t1 t2 n0 n1 n2 ms sv names) := h.below hbx
  have HV : Hid (Scope _ vv vars) := hv.below hbx
  have HFX : Hid (Fr B b w _) := Fr.of hbx h.hB
  have v2 : w.cell? ⟨V, 2, none⟩ = some (.string x) := cell_row (j := 2) hV rfl
  have hVlt : V < w.heap.size := (Array.getElem?_eq_some_iff.1 hV).1
  clear hbx h hv hV
  have hta := assert57
  unfold NBlk.val
  go_enter Ybad.func43, Ybad.ntmps43
  go_wp2_with fail
  generalize w.alloc (Obj.cells #[Value.pointer (some { block := p.sh, off := 0 }), Value.slice (some { block := p.tb, off := 0 }) 3 3, Value.slice (some { block := p.nb, off := 0 }) 3 3] 75) = X at *
  refine (index_any vv vars x X HV.out (by omega)).mono ?_
  rintro e w0 ⟨rfl, rfl⟩
  have hnz := num_size (Lib.idxOfS vars x) ⟨by omega, by omega⟩
  have HIT := itoa_any L (Lib.idxOfS vars x) ⟨by omega, by omega⟩ w0 HX.out.tab
  go_wp2_with fail
  refine HIT.mono ?_
  rintro e w1 ⟨rfl, hb1⟩
  have hE1 := HX.out.below hb1
  clear HIT
  generalize hnq : num (Lib.idxOfS vars x) = nq at *
  have HNQ : Hid (num (Lib.idxOfS vars x) = nq) := hnq
  clear hnq
  have hs1 : (⟨#[118]⟩ : ByteArray).size = 1 := rfl
  go_wp2_with fail
  refine (write_any B b acc _ w1 hE1.bd (by simp [ByteArray.size_append, hs1]; omega) hE1.hB).mono ?_
  rintro e w2 ⟨rfl, hbd2, hf2⟩
  go_wp2_with fail
  refine bodyPost_end (results_none rfl _ _ _) rfl ?_
  exact ⟨rfl, by rw [HNQ.out]; exact hbd2, (HFX.out.trans (Fr.of hb1 HX.out.hB)).trans hf2⟩
end Go.Proofs.YbulkbmowDoor
