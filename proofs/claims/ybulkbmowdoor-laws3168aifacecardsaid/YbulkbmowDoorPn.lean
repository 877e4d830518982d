/-
  syntax.ParamNames.
-/
import Derived.Test.YbulkbmowDoorPar
namespace Go.Proofs.YbulkbmowDoor
open Go.RowKit Go

theorem info9 : (Ybad.prog.info? 9).map (fun i => (i.zero, i.size, i.bytes)) = some (some (.string ⟨#[]⟩), 1, 16) := by kernel_rfl

theorem setCell_row (w : World) (g i : Nat) (cur : Array Value) (t : TypeId) (v : Value) (h : w.heap[g]? = some (.cells cur t (0, 0))) : (w.setCell ⟨g, i, none⟩ v).heap[g]? = some (.cells (cur.setIfInBounds i v) t (0, 0)) := by
  rw [setCell_eq_setRow w g i cur t (0, 0) v h]
  exact setRow_heap w g cur _ t _ h

set_option maxRecDepth 100000 in
set_option maxHeartbeats 1000000 in
theorem pnames_any (w : World) (pv : Value) (ps : List (ByteArray × ByteArray)) (hpr : ParRow w pv ps) (hl : ps.length ≤ 100) :
    Calls Ybad.prog 17 #[pv] w fun e w' => ∃ sv, e = .returned sv ∧ Scope w' sv (ps.map (·.1)) ∧ Below w.heap.size w w' := by
  obtain ⟨i9, hi9, hz9, hs9, hb9⟩ := info_parts info9
  obtain ⟨pa, pc, rfl, hrow⟩ := hpr
  have hmk := fun w => run_make (P := Ybad.prog) w 51 9 i9 _ Ybad.underlying51 hi9 hz9 .i64 .i64 (ps.length : Int) (ps.length : Int) (by omega) (by omega) (by rw [hb9]; omega) (by omega)
  rw [hs9, Int.toNat_natCast] at hmk
  generalize hZ : madeCells (Value.string ⟨#[]⟩).cells (ps.length * 1) = Z at hmk
  have HZ : Hid (Z.size = ps.length) := by show _ = _; rw [← hZ, size_madeCells, Nat.mul_one]
  have HROW : Hid (0 < ps.length → _) := hrow
  clear hZ hrow
  go_enter Ybad.func17, Ybad.ntmps17
  go_wp2_with fail
  have HST : Hid ((w.alloc (Obj.cells Z 9)).heap[w.heap.size]? = some (.cells Z 9 (0, 0)) ∧ Below w.heap.size w (w.alloc (Obj.cells Z 9))) := ⟨heap_alloc_newD _ _, (Below.refl _ w).alloc (Nat.le_refl _) _⟩
  clear hmk
  generalize w.alloc (Obj.cells Z 9) = W0 at *
  generalize hS : w.heap.size = S at *
  go_loopw [11] (fun i wr => ∃ j : Nat, j ≤ ps.length ∧ i = .int .i64 j ∧ ∃ cur, wr.heap[S]? = some (.cells cur 9 (0, 0)) ∧ cur.size = ps.length ∧ (∀ i (h : i < ps.length), i < j → cur[i]? = some (.string ps[i].1)) ∧ Below S w wr) (fun i _ => ps.length - (intOf i).toNat)
  case atStart => exact ⟨0, Nat.zero_le _, rfl, Z, HST.out.1, HZ.out, fun i _ h => absurd h (Nat.not_lt_zero _), HST.out.2⟩
  case round =>
    obtain ⟨j, hj, rfl, cur, hc, hsz, hdone, hb⟩ := hrel
    clear HST
    by_cases hlt : j < ps.length
    · obtain ⟨g, pcur, rfl, hgr, hpc⟩ := HROW.out (by omega)
      obtain ⟨k0, k1, k2, k3, k4, k5, k6⟩ := hpc j hlt
      have hgS : g < S := by rw [← hS]; exact (Array.getElem?_eq_some_iff.1 hgr).1
      have hgr' : wr.heap[g]? = some (.cells pcur 47 (0, 0)) := (hb.block g hgS).trans hgr
      have c0 := cell_row (j := j * 7) hgr' k0
      have c1 := cell_row (j := j * 7 + 1) hgr' k1
      have c2 := cell_row (j := j * 7 + 2) hgr' k2
      have c3 := cell_row (j := j * 7 + 3) hgr' k3
      have c4 := cell_row (j := j * 7 + 4) hgr' k4
      have c5 := cell_row (j := j * 7 + 5) hgr' k5
      have c6 := cell_row (j := j * 7 + 6) hgr' k6
      have hSl : S < wr.heap.size := (Array.getElem?_eq_some_iff.1 hc).1
      obtain ⟨cj, s0⟩ : ∃ cj, wr.cell? ⟨S, j, none⟩ = some cj := ⟨cur[j], by simp [World.cell?, hc, show j < cur.size by omega]⟩
      have sf : ∀ j, wr.frozen? ⟨S, j, none⟩ = false := fun j => by simp [World.frozen?, hc]
      have HFIN : Hid (∀ o, ((wr.setCell ⟨S, j, none⟩ (.string ps[j].1)).alloc o).heap[S]? = some (.cells (cur.setIfInBounds j (.string ps[j].1)) 9 (0, 0)) ∧ Below S w ((wr.setCell ⟨S, j, none⟩ (.string ps[j].1)).alloc o)) := fun o => by
        have hz : (wr.setCell ⟨S, j, none⟩ (.string ps[j].1)).heap.size = wr.heap.size := by simp [World.setCell]
        refine ⟨(heap_alloc_oldD _ o (by rw [hz]; exact hSl)).trans (setCell_row _ S j cur 9 _ hc), ?_⟩
        exact (Below.setCell hb (Nat.le_refl _) _).alloc (by rw [hz]; have := hb.size; omega) o
      have HD : Hid (∀ i (h : i < ps.length), i < j + 1 → (cur.setIfInBounds j (.string ps[j].1))[i]? = some (.string ps[i].1)) := fun i h hi => by
        rw [Array.getElem?_setIfInBounds]
        by_cases e : j = i
        · subst e; rw [if_pos rfl, if_pos (by omega)]
        · rw [if_neg e]; exact hdone i h (by omega)
      have HSZ : Hid ((cur.setIfInBounds j (.string ps[j].1)).size = ps.length) := by show _ = _; simpa using hsz
      clear hgr hgr' hc hsz hdone hb k0 k1 k2 k3 k4 k5 k6 hpc HROW
      generalize cur.setIfInBounds j (.string ps[j].1) = cur' at *
      generalize hx : ps[j].1 = xj at *
      generalize ps[j].2 = bj at *
      clear hx
      go_wp2_with fail
      obtain ⟨f1, f2⟩ := HFIN.out (Obj.cells #[Value.int IntKind.i64 0, Value.int IntKind.i64 0, Value.string xj, Value.int IntKind.i64 0, Value.int IntKind.i64 0, Value.string bj, Value.slice none 0 0] 47)
      go_roundw
      case rel => exact ⟨j + 1, by omega, by go_num, cur', f1, HSZ.out, HD.out, f2⟩
      case measure => simp [intOf]; omega
    · obtain rfl : j = ps.length := by omega
      go_wp2_with fail
      go_ret
      refine ⟨_, rfl, ⟨some ⟨S, 0, none⟩, ps.length, by simp, fun _ => ⟨S, cur, rfl, hc, fun i hi => ?_⟩⟩, by rw [hS]; exact hb⟩
      rw [List.length_map] at hi
      rw [hdone i hi hi]
      simp
end Go.Proofs.YbulkbmowDoor
