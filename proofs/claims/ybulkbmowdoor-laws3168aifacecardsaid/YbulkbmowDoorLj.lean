/-
  A store of a whole type into the middle of a row that grew, at a step of a drawn region.
-/
import Derived.Test.YbulkbmowDoorLi
import Derived.Deep.MidRow
namespace Go.Proofs.YbulkbmowDoor
open Go.RowKit Go

theorem step_store4 {P : Program} {w : World} {ops : Array Oper} {o : Oper} {a : Act} {K : Act → World → Prop} {Q : Exit → Act → World → Prop} {E : Prop} (hgd : o.guard = none) (ty : TypeId) (x y : Operand) (ho : o.op = .store ty x y) (b off : Nat) (v0 v1 v2 v3 : Value) (hx : a.eval x = .pointer (some ⟨b, off, none⟩)) (hy : a.eval y = .agg #[v0, v1, v2, v3]) (ht : w.there b off 4) (hi : (P.info? ty).map (·.size) = some 4) (h1 : (#[v0, v1, v2, v3] : Array Value).all (·.oneCell') = true)
    (h : ∀ V, V = (((w.setCell ⟨b, off, none⟩ v0).setCell ⟨b, off + 1, none⟩ v1).setCell ⟨b, off + 2, none⟩ v2).setCell ⟨b, off + 3, none⟩ v3 → K (a.put o.dst undef) V) :
    if Region.wanted o (yielded ops a.tmps) = true then Oper.wp P o a w K Q else E := by
  have hw : Region.wanted o (yielded ops a.tmps) = true := by simp [Region.wanted, hgd]
  rw [if_pos hw]
  exact wp_store_mid ty x y ho b off #[v0, v1, v2, v3] hx hy ht hi h1 (h _ rfl)

theorem there_own {w : World} {B g j cap : Nat} {xs : List Value} {a0 a1 a2 a3 : Value} (hxl : xs.length = j * 4) (h : w.ownsRow B 43 4 (.slice (some ⟨g, 0, none⟩) (j + 1) cap) (j + 1) (xs ++ [a0, a1, a2, a3])) : w.there g (j * 4) 4 := fun q hq => by
  refine ⟨?_, h.frozenAt _⟩
  rw [h.cellAt _ (by omega), List.getElem?_append_right (by omega), hxl, Nat.add_sub_cancel_left]
  match q, hq with
  | 0, _ => rfl
  | 1, _ => rfl
  | 2, _ => rfl
  | 3, _ => rfl

theorem there4 {w : World} {B g j cap : Nat} {xs : List Value} {a0 a1 a2 a3 : Value} (hxl : xs.length = j * 4) (h : w.ownsRow B 43 4 (.slice (some ⟨g, 0, none⟩) (j + 1) cap) (j + 1) (xs ++ [a0, a1, a2, a3])) : w.cell? ⟨g, j * 4, none⟩ = some a0 ∧ w.cell? ⟨g, j * 4 + 1, none⟩ = some a1 ∧ w.cell? ⟨g, j * 4 + 2, none⟩ = some a2 ∧ w.cell? ⟨g, j * 4 + 3, none⟩ = some a3 := by
  have e : ∀ q, q < 4 → w.cell? ⟨g, j * 4 + q, none⟩ = [a0, a1, a2, a3][q]? := fun q hq => by
    rw [h.cellAt _ (by omega), List.getElem?_append_right (by omega), hxl, Nat.add_sub_cancel_left]
  exact ⟨e 0 (by omega), e 1 (by omega), e 2 (by omega), e 3 (by omega)⟩

theorem set_comm (w : World) (g D i k : Nat) (u v : Value) (h : D ≠ g) : (w.setCell ⟨D, i, none⟩ u).setCell ⟨g, k, none⟩ v = (w.setCell ⟨g, k, none⟩ v).setCell ⟨D, i, none⟩ u := by
  unfold World.setCell
  simp only [World.mk.injEq, and_true]
  apply Array.ext_getElem?
  intro q
  simp only [Array.getElem?_modify]
  by_cases h1 : g = q
  · subst h1
    rw [if_pos rfl, if_neg h, if_neg h, if_pos rfl]
  · rw [if_neg h1]
    by_cases h2 : D = q
    · rw [if_pos h2, if_pos h2, if_neg h1]
    · rw [if_neg h2, if_neg h2, if_neg h1]

theorem set_comm4 (w : World) (g D i k : Nat) (u v0 v1 v2 v3 : Value) (h : D ≠ g) : ((((w.setCell ⟨D, i, none⟩ u).setCell ⟨g, k, none⟩ v0).setCell ⟨g, k + 1, none⟩ v1).setCell ⟨g, k + 2, none⟩ v2).setCell ⟨g, k + 3, none⟩ v3 = ((((w.setCell ⟨g, k, none⟩ v0).setCell ⟨g, k + 1, none⟩ v1).setCell ⟨g, k + 2, none⟩ v2).setCell ⟨g, k + 3, none⟩ v3).setCell ⟨D, i, none⟩ u := by
  rw [set_comm _ g D i k u v0 h, set_comm _ g D i (k + 1) u v1 h, set_comm _ g D i (k + 2) u v2 h, set_comm _ g D i (k + 3) u v3 h]

theorem Scope.other {w w' : World} {sv : Value} {names : List ByteArray} {row : Option Nat} (h : Scope w sv names) (hg : w.grownBy w' row) (hne : ∀ k, sv.ownBlock = some k → some k ≠ row) : Scope w' sv names := by
  obtain ⟨a, c, rfl, h2⟩ := h
  refine ⟨a, c, rfl, fun hp => ?_⟩
  obtain ⟨g, cur, rfl, h4, h5⟩ := h2 hp
  exact ⟨g, cur, rfl, (hg.block g (Array.getElem?_eq_some_iff.1 h4).1 (hne g rfl)).trans h4, h5⟩

theorem info43s : (Ybad.prog.info? 43).map (·.size) = some 4 := by kernel_rfl

theorem four_far {w V : World} {g D q : Nat} {v0 v1 v2 v3 : Value} {o : Obj} (hne : D ≠ g) (hd : w.heap[D]? = some o) (hV : V = (((w.setCell ⟨g, q, none⟩ v0).setCell ⟨g, q + 1, none⟩ v1).setCell ⟨g, q + 2, none⟩ v2).setCell ⟨g, q + 3, none⟩ v3) : V.heap[D]? = some o := by
  rw [hV, Below.heap_setCell _ _ _ _ hne, Below.heap_setCell _ _ _ _ hne, Below.heap_setCell _ _ _ _ hne, Below.heap_setCell _ _ _ _ hne]
  exact hd
end Go.Proofs.YbulkbmowDoor
