import Derived.Test.YbulkbmngProg
import Derived.WalkKit
import Derived.WalkSpells
import Derived.WalkLawsBesides
import Derived.Laws.CopyOwn
import Derived.Deep.AppendLies
import Derived.Deep.QuietTactic
import Derived.BigQuiet
import Derived.Deep.DeepFit
namespace Go.Proofs.Ybulkbmng
open Go.RowKit Go

theorem info5 : (Yba.prog.info? 5).map (fun i => (i.zero, i.size, i.bytes)) = some (some (.int .u8 0), 1, 1) := by kernel_rfl
theorem info2 : (Yba.prog.info? 2).map (fun i => (i.zero, i.size, i.bytes)) = some (some (.int .i64 0), 1, 8) := by kernel_rfl

/-- What a walk is told of a slice of integers that came in. -/
def Row (k : IntKind) (w : World) (a : Option Addr) (len cap : Nat) (zs : List Int) : Prop :=
  (a = none ∧ len = 0 ∧ cap = 0 ∧ zs = []) ∨
  ∃ x, a = some x ∧ len ≤ cap ∧ cap ≤ maxLen ∧ zs.length = cap ∧ (∀ i, i < zs.length → w.cell? (x.add i) = some (.int k (zs.getD i 0))) ∧ ∀ n ∈ zs, (Lit.int k n).wf = true

theorem getD_of {α : Type} (l : List α) (d : α) (j : Nat) (h : j < l.length) : l[j]? = some (l.getD j d) := by simp [List.getD, h]

theorem src_cells {k : IntKind} {w : World} {x : Addr} {zs : List Int} (len : Nat) (hcell : ∀ i, i < zs.length → w.cell? (x.add i) = some (.int k (zs.getD i 0))) :
    ∀ j v, ((zs.take len).map (Value.int k))[j]? = some v → w.cell? (x.add j) = some v := by
  intro j v hv
  have hj : j < ((zs.take len).map (Value.int k)).length := by
    rcases Nat.lt_or_ge j ((zs.take len).map (Value.int k)).length with h | h
    · exact h
    · rw [List.getElem?_eq_none h] at hv; cases hv
  simp at hj
  rw [hcell j (by omega)]
  have hz : j < zs.length := by omega
  simp [hj, hz, List.getD] at hv ⊢
  exact hv

theorem owns_copied (w : World) (e : TypeId) (k : IntKind) (z : Array Value) (len : Nat) (zs : List Int) (hl : len ≤ zs.length) (hm : len ≤ 1024) :
    ((w.alloc (.cells (madeCells z len) e)).setRow w.heap.size ((madeCells z len).toList.take 0 ++ (zs.take len).map (Value.int k) ++ (madeCells z len).toList.drop (0 + ((zs.take len).map (Value.int k)).length)).toArray).ownsRow w.heap.size e 1
      (.slice (some ⟨w.heap.size, 0, none⟩) len len) len ((zs.take len).map (Value.int k)) := by
  have hd : (madeCells z len).toList.drop (0 + ((zs.take len).map (Value.int k)).length) = [] := by
    apply List.drop_eq_nil_of_le; rw [Array.length_toList, size_madeCells]; simp; omega
  rw [hd, List.append_nil, List.take_zero, List.nil_append]
  refine ⟨by simp; omega, .inr ⟨w.heap.size, len, _, rfl, Nat.le_refl _, setRow_heap _ _ _ _ e _ (heap_alloc_new w _), Nat.le_refl _, by unfold maxLen; omega, by simp; omega, ?_⟩⟩
  rw [List.take_of_length_le]
  simp; omega

theorem below_copied (w : World) (e : TypeId) (cs : Array Value) (ds : Array Value) : Below w.heap.size w ((w.alloc (.cells cs e)).setRow w.heap.size ds) :=
  below_setRow ((Below.refl _ _).alloc (Nat.le_refl _) _) (Nat.le_refl _) _

theorem cloneb (a : Option Addr) (len cap : Nat) (zs : List Int) (w : World) (h : Row .u8 w a len cap zs) (hlen : len ≤ 1024) :
    Calls Yba.prog 7 #[.slice a len cap] w fun e w' => ∃ v, e = .returned v ∧ w'.ownsRow w.heap.size 5 1 v len ((zs.take len).map (.int .u8)) ∧ Below w.heap.size w w' := by
  rcases h with ⟨rfl, rfl, rfl, rfl⟩ | ⟨x, rfl, hlc, hm, hz, hcell, hwf⟩
  · have hn := fun w => Lib.run_eql_slice_nil (P := Yba.prog) w 22 5 none 0 0 0 0 Yba.underlying22
    go_enter Yba.func7, Yba.ntmps7
    go_wp2
    go_ret
    exact ⟨_, rfl, World.ownsRow_nil _ _ _ _, Below.refl _ _⟩
  · obtain ⟨i0, hi, hz0, hz1, hz2⟩ := info_parts info5
    have hn := fun w => Lib.run_eql_slice_nil (P := Yba.prog) w 22 5 (some x) len cap 0 0 Yba.underlying22
    have hmk := fun w => run_make (P := Yba.prog) w 22 5 i0 (.int .u8 0) Yba.underlying22 hi hz0 .i64 .i64 (len : Int) (len : Int) (by omega) (by omega) (by rw [hz2]; omega) (by omega)
    rw [hz1] at hmk
    have hcp := run_copy_row (P := Yba.prog) (w.alloc (.cells (madeCells #[.int .u8 0] len) 5)) 22 22 3 5 w.heap.size 0 len len x len cap (madeCells #[.int .u8 0] len) 5 ((zs.take len).map (.int .u8)) Yba.underlying22 (by kernel_rfl) (heap_alloc_new w _) (by simp; omega) (by intro j v hv; exact Lib.cell?_alloc_some _ (src_cells len hcell j v hv)) (by rw [size_madeCells]; simp; omega) (ints_oneCell _ _)
    have ho := owns_copied w 5 .u8 #[.int .u8 0] len zs (by omega) hlen
    have hb := below_copied w 5 (madeCells #[.int .u8 0] len)
    obtain ⟨ds, hds⟩ : ∃ ds, ds = ((madeCells #[.int .u8 0] len).toList.take 0 ++ (zs.take len).map (Value.int .u8) ++ (madeCells #[.int .u8 0] len).toList.drop (0 + ((zs.take len).map (Value.int .u8)).length)).toArray := ⟨_, rfl⟩
    rw [← hds] at hcp ho
    clear hds
    go_enter Yba.func7, Yba.ntmps7
    go_wp2
    go_ret
    exact ⟨_, rfl, ho, hb _⟩

theorem clonev (a : Option Addr) (len cap : Nat) (zs : List Int) (w : World) (h : Row .i64 w a len cap zs) (hlen : len ≤ 1024) :
    Calls Yba.prog 8 #[.slice a len cap] w fun e w' => ∃ v, e = .returned v ∧ w'.ownsRow w.heap.size 2 1 v len ((zs.take len).map (.int .i64)) ∧ Below w.heap.size w w' := by
  rcases h with ⟨rfl, rfl, rfl, rfl⟩ | ⟨x, rfl, hlc, hm, hz, hcell, hwf⟩
  · have hn := fun w => Lib.run_eql_slice_nil (P := Yba.prog) w 23 2 none 0 0 0 0 Yba.underlying23
    go_enter Yba.func8, Yba.ntmps8
    go_wp2
    go_ret
    exact ⟨_, rfl, World.ownsRow_nil _ _ _ _, Below.refl _ _⟩
  · obtain ⟨i0, hi, hz0, hz1, hz2⟩ := info_parts info2
    have hn := fun w => Lib.run_eql_slice_nil (P := Yba.prog) w 23 2 (some x) len cap 0 0 Yba.underlying23
    have hmk := fun w => run_make (P := Yba.prog) w 23 2 i0 (.int .i64 0) Yba.underlying23 hi hz0 .i64 .i64 (len : Int) (len : Int) (by omega) (by omega) (by rw [hz2]; omega) (by omega)
    rw [hz1] at hmk
    have hcp := run_copy_row (P := Yba.prog) (w.alloc (.cells (madeCells #[.int .i64 0] len) 2)) 23 23 3 2 w.heap.size 0 len len x len cap (madeCells #[.int .i64 0] len) 2 ((zs.take len).map (.int .i64)) Yba.underlying23 (by kernel_rfl) (heap_alloc_new w _) (by simp; omega) (by intro j v hv; exact Lib.cell?_alloc_some _ (src_cells len hcell j v hv)) (by rw [size_madeCells]; simp; omega) (ints_oneCell _ _)
    have ho := owns_copied w 2 .i64 #[.int .i64 0] len zs (by omega) hlen
    have hb := below_copied w 2 (madeCells #[.int .i64 0] len)
    obtain ⟨ds, hds⟩ : ∃ ds, ds = ((madeCells #[.int .i64 0] len).toList.take 0 ++ (zs.take len).map (Value.int .i64) ++ (madeCells #[.int .i64 0] len).toList.drop (0 + ((zs.take len).map (Value.int .i64)).length)).toArray := ⟨_, rfl⟩
    rw [← hds] at hcp ho
    clear hds
    go_enter Yba.func8, Yba.ntmps8
    go_wp2
    go_ret
    exact ⟨_, rfl, ho, hb _⟩
end Go.Proofs.Ybulkbmng
