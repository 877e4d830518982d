/-
  Rows kept by their types; rows of fields and of parameters while they grow.
-/
import Derived.Test.YbulkbmowDoorTyx
namespace Go.Proofs.YbulkbmowDoor
open Go.RowKit Go

/-- Every row of type t is as it was. -/
def Keeps (t : TypeId) (w w2 : World) : Prop := ∀ (k : Nat) (c : Array Value), w.heap[k]? = some (Obj.cells c t (0, 0)) → w2.heap[k]? = some (Obj.cells c t (0, 0))

theorem Keeps.refl (t : TypeId) (w : World) : Keeps t w w := fun _ _ h => h
theorem Keeps.trans {t : TypeId} {a b c : World} (h : Keeps t a b) (k : Keeps t b c) : Keeps t a c := fun i x hx => k i x (h i x hx)
theorem Keeps.below {t : TypeId} {w w2 : World} (hb : Below w.heap.size w w2) : Keeps t w w2 := fun k _ h => (hb.block k (Array.getElem?_eq_some_iff.1 h).1).trans h
theorem Keeps.alloc (t : TypeId) (w : World) (o : Obj) : Keeps t w (w.alloc o) := fun _ _ h => (heap_alloc_oldD _ _ (Array.getElem?_eq_some_iff.1 h).1).trans h
theorem Keeps.grown {t e : TypeId} {w w2 : World} {B s n : Nat} {v : Value} {xs : List Value} (hown : w.ownsRow B e s v n xs) (hne : e ≠ t) (hg : w.grownBy w2 v.ownBlock) : Keeps t w w2 := fun k c h => by
  refine (hg.block k (Array.getElem?_eq_some_iff.1 h).1 ?_).trans h
  obtain ⟨_, ⟨rfl, _⟩ | ⟨g, cap, cur, rfl, _, hgr, _⟩⟩ := hown
  · simp [Value.ownBlock]
  · simp only [Value.ownBlock]
    intro e'
    simp only [Option.some.injEq] at e'
    subst e'
    rw [h] at hgr
    injection hgr with hgr
    injection hgr with _ h2
    exact hne h2.symm
theorem Keeps.setCell {t e : TypeId} {w : World} {D i : Nat} {c : Array Value} {fr : Nat × Nat} (hD : w.heap[D]? = some (.cells c e fr)) (hne : e ≠ t) (v : Value) : Keeps t w (w.setCell ⟨D, i, none⟩ v) := fun k c' h => by
  rw [Below.heap_setCell _ _ _ _ ?_]
  · exact h
  · show k ≠ D
    rintro rfl
    rw [h] at hD
    injection hD with hD
    injection hD with _ h2
    exact hne h2.symm

theorem TyArgs.keeps {w w2 : World} {v : Value} {args : List ByteArray} (h : TyArgs w v args) (hk : Keeps 43 w w2) : TyArgs w2 v args := by
  obtain ⟨a, c, h1, h2⟩ := h
  refine ⟨a, c, h1, fun hp => ?_⟩
  obtain ⟨g, cur, h3, h4, h5⟩ := h2 hp
  exact ⟨g, cur, h3, hk _ _ h4, h5⟩
theorem FldRow.keeps {w w2 : World} {v : Value} {fs : List (ByteArray × List ByteArray)} (h : FldRow w v fs) (hk : Keeps 43 w w2) (hk' : Keeps 49 w w2) : FldRow w2 v fs := by
  obtain ⟨a, c, h1, h2⟩ := h
  refine ⟨a, c, h1, fun hp => ?_⟩
  obtain ⟨g, cur, h3, h4, h5⟩ := h2 hp
  refine ⟨g, cur, h3, hk' _ _ h4, fun j hj => ?_⟩
  obtain ⟨k0, k1, k2, k3, k4, k5, av, k6, k7⟩ := h5 j hj
  exact ⟨k0, k1, k2, k3, k4, k5, av, k6, k7.keeps hk⟩
theorem ParRow.keeps {w w2 : World} {v : Value} {ps : List (ByteArray × ByteArray)} (h : ParRow w v ps) (hk : Keeps 47 w w2) : ParRow w2 v ps := by
  obtain ⟨a, c, h1, h2⟩ := h
  refine ⟨a, c, h1, fun hp => ?_⟩
  obtain ⟨g, cur, h3, h4, h5⟩ := h2 hp
  exact ⟨g, cur, h3, hk _ _ h4, h5⟩

/-- A field's cells. -/
def fldCells (q : ByteArray × Value) : List Value := [.int .i64 0, .int .i64 0, .string ⟨#[]⟩, .int .i64 0, .int .i64 0, .string q.1, q.2]

/-- The row's entries are these fields. -/
def Match (w : World) (l : List (ByteArray × Value)) (fs : List (ByteArray × List ByteArray)) : Prop :=
  l.length = fs.length ∧ ∀ i (h : i < l.length) (h' : i < fs.length), l[i].1 = fs[i].1 ∧ TyArgs w l[i].2 fs[i].2

theorem Match.keeps {w w2 : World} {l : List (ByteArray × Value)} {fs : List (ByteArray × List ByteArray)} (h : Match w l fs) (hk : Keeps 43 w w2) : Match w2 l fs :=
  ⟨h.1, fun i h1 h2 => ⟨(h.2 i h1 h2).1, (h.2 i h1 h2).2.keeps hk⟩⟩
theorem Match.nil (w : World) : Match w [] [] := ⟨rfl, fun i h => by simp at h⟩
theorem Match.snoc {w : World} {l : List (ByteArray × Value)} {fs : List (ByteArray × List ByteArray)} (h : Match w l fs) (x : ByteArray) (av : Value) (args : List ByteArray) (ht : TyArgs w av args) : Match w (l ++ [(x, av)]) (fs ++ [(x, args)]) := by
  refine ⟨by simp [h.1], fun i h1 h2 => ?_⟩
  by_cases hi : i < l.length
  · rw [List.getElem_append_left hi, List.getElem_append_left (by rw [← h.1]; exact hi)]
    exact h.2 i hi _
  · have e : i = l.length := by simp at h1; omega
    subst e
    have e2 := h.1
    rw [List.getElem_append_right (Nat.le_refl _), List.getElem_append_right (by omega)]
    simp only [Nat.sub_self, e2, List.getElem_cons_zero]
    exact ⟨trivial, ht⟩

theorem fldRow_own {w : World} {B : Nat} {v : Value} {l : List (ByteArray × Value)} {fs : List (ByteArray × List ByteArray)} (h : w.ownsRow B 49 7 v l.length (l.flatMap fldCells)) (hm : Match w l fs) : FldRow w v fs := by
  obtain ⟨_, ⟨rfl, hn⟩ | ⟨g, cap, cur, rfl, _, hg, _, _, _, ht⟩⟩ := h
  · exact ⟨none, 0, by rw [← hm.1, hn], fun hp => by rw [← hm.1] at hp; omega⟩
  · refine ⟨_, cap, by rw [hm.1], fun _ => ⟨g, cur, rfl, hg, fun j hj => ?_⟩⟩
    have hj' : j < l.length := by rw [hm.1]; exact hj
    have e := fun i hi => flat_get fldCells 7 (fun _ => rfl) l j hj' i hi
    have hmj := hm.2 j hj' hj
    exact ⟨take_cell ht (by rw [show j * 7 = j * 7 + 0 from rfl, e 0 (by omega)]; rfl), take_cell ht (by rw [e 1 (by omega)]; rfl), take_cell ht (by rw [e 2 (by omega)]; rfl), take_cell ht (by rw [e 3 (by omega)]; rfl), take_cell ht (by rw [e 4 (by omega)]; rfl), take_cell ht (by rw [e 5 (by omega), ← hmj.1]; rfl), l[j].2, take_cell ht (by rw [e 6 (by omega)]; rfl), hmj.2⟩

theorem flat_snoc (l : List (ByteArray × Value)) (q : ByteArray × Value) : (l ++ [q]).flatMap fldCells = l.flatMap fldCells ++ fldCells q := by rw [List.flatMap_append]; simp

/-- A type parameter's cells. -/
def parCells (q : ByteArray × ByteArray) : List Value := [.int .i64 0, .int .i64 0, .string q.1, .int .i64 0, .int .i64 0, .string q.2, .slice none 0 0]
theorem parRow_own {w : World} {B : Nat} {v : Value} {l : List (ByteArray × ByteArray)} (h : w.ownsRow B 47 7 v l.length (l.flatMap parCells)) : ParRow w v l := by
  obtain ⟨_, ⟨rfl, hn⟩ | ⟨g, cap, cur, rfl, _, hg, _, _, _, ht⟩⟩ := h
  · exact ⟨none, 0, by rw [hn], fun hp => by omega⟩
  · refine ⟨_, cap, rfl, fun _ => ⟨g, cur, rfl, hg, fun j hj => ?_⟩⟩
    have e := fun i hi => flat_get parCells 7 (fun _ => rfl) l j hj i hi
    exact ⟨take_cell ht (by rw [show j * 7 = j * 7 + 0 from rfl, e 0 (by omega)]; rfl), take_cell ht (by rw [e 1 (by omega)]; rfl), take_cell ht (by rw [e 2 (by omega)]; rfl), take_cell ht (by rw [e 3 (by omega)]; rfl), take_cell ht (by rw [e 4 (by omega)]; rfl), take_cell ht (by rw [e 5 (by omega)]; rfl), take_cell ht (by rw [e 6 (by omega)]; rfl)⟩

/-- A row that grows and a field of a block that is set to it: the world behind both. -/
structure Grew (T D i : Nat) (td : TypeId) (dc : Array Value) (e : TypeId) (s : Nat) (w w3 : World) (v nv : Value) (n : Nat) (xs : List Value) : Prop where
  own : w3.ownsRow T e s nv n xs
  d : w3.heap[D]? = some (.cells (dc.setIfInBounds i nv) td (0, 0))
  keeps : ∀ t, t ≠ td → t ≠ e → Keeps t w w3
  size : w.heap.size ≤ w3.heap.size
  bel : ∀ B w0, B ≤ D → B ≤ T → Below B w0 w → Below B w0 w3

theorem grew {T D i : Nat} {td e : TypeId} {dc : Array Value} {s j n : Nat} {w w2 : World} {v nv : Value} {xs ys : List Value} {o : Obj} (hown : w.ownsRow T e s v j xs) (hd : w.heap[D]? = some (.cells dc td (0, 0))) (hDT : D < T) (hT : T ≤ w.heap.size) (hg : (w.alloc o).grownBy w2 v.ownBlock) (hown2 : w2.ownsRow T e s nv n ys) : Grew T D i td dc e s w (w2.setCell ⟨D, i, none⟩ nv) v nv n ys := by
  have hsz : w.heap.size + 1 ≤ w2.heap.size := by have := hg.size; simpa using this
  have hne : some D ≠ v.ownBlock := fun h => by
    have := (hown.lt D h.symm).1
    omega
  have hd2 : w2.heap[D]? = some (.cells dc td (0, 0)) := by
    rw [hg.block D (by simp; omega) hne, heap_alloc_oldD _ _ (by omega)]
    exact hd
  refine ⟨ownsRow_setCell_below hown2 hDT nv, setCell_row w2 D i _ td nv hd2, fun t h1 h2 => ((Keeps.alloc t w o).trans (Keeps.grown (hown.alloc o) h2.symm hg)).trans (Keeps.setCell hd2 h1.symm nv), by rw [World.size_setCell]; omega, fun B w0 hB hB' hb => ?_⟩
  refine ((hb.alloc (by omega) o).grown hg (by simp; omega) (fun k hk => ?_)).setCell (by show B ≤ D; omega) nv
  have := (hown.lt k hk).1
  omega
end Go.Proofs.YbulkbmowDoor
