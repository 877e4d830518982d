/-
  Rows of strings: sorted; what a row of strings that turns leaves as it was.
-/
import Derived.Test.YbulkbmowDoorSg
import Derived.Sort.OwnSorted
namespace Go.Proofs.YbulkbmowDoor
open Go.RowKit Go

/-- The texts, sorted. -/
def sortB (l : List ByteArray) : List ByteArray := ((l.map fun x => x.data.toList).mergeSort fun x y => decide (x ≤ y)).map fun x => ⟨x.toArray⟩

theorem sortB_length (l : List ByteArray) : (sortB l).length = l.length := by simp [sortB]

theorem sortB_mem {l : List ByteArray} {a : ByteArray} (h : a ∈ sortB l) : a ∈ l := by
  unfold sortB at h
  rw [List.mem_map] at h
  obtain ⟨x, hx, rfl⟩ := h
  rw [List.mem_mergeSort, List.mem_map] at hx
  obtain ⟨y, hy, rfl⟩ := hx
  exact hy

/-- The row that turned was a row of strings (or none). -/
def Row9 (w : World) (row : Option Nat) : Prop := ∀ k, row = some k → Typed w k 9

theorem Row9.obj {w w' : World} {row : Option Nat} (h : Row9 w row) (hg : w.grownBy w' row) {k : Nat} {o : Obj} (hk : w.heap[k]? = some o) (ho : ∀ c, o ≠ Obj.cells c 9 (0, 0)) : w'.heap[k]? = some o := by
  refine (hg.block k (Array.getElem?_eq_some_iff.1 hk).1 ?_).trans hk
  intro e
  obtain ⟨c, hc⟩ := h k e.symm
  rw [hk] at hc
  injection hc with hc
  exact ho _ hc

theorem Row9.keeps {w w' : World} {row : Option Nat} (h : Row9 w row) (hg : w.grownBy w' row) (t : TypeId) (ht : t ≠ 9) : Keeps t w w' := fun _ _ hk => h.obj hg hk (fun c' e => ht (by injection e))

theorem Row9.num {w w' : World} {row : Option Nat} (h : Row9 w row) (hg : w.grownBy w' row) {p : NBlk} {t0 t1 t2 n0 n1 n2 : Int} {ms : Value} (hn : NumOK w p t0 t1 t2 n0 n1 n2 ms) : NumOK w' p t0 t1 t2 n0 n1 n2 ms :=
  ⟨h.obj hg hn.sh (by intro c; simp), h.obj hg hn.pg (by intro c; simp), h.obj hg hn.mt (by intro c; simp), h.obj hg hn.mn (by intro c; simp), h.obj hg hn.tb (by intro c; simp), h.obj hg hn.nb (by intro c; simp)⟩

theorem Row9.bdAt {w w' : World} {row : Option Nat} (h : Row9 w row) (hg : w.grownBy w' row) {B b : Nat} {p : Value} {bs : List Value} (hb : Lib.BuilderAtF 101 5 B b p bs w) : Lib.BuilderAtF 101 5 B b p bs w' := by
  obtain ⟨h1, v, h2, h3, h4⟩ := hb
  refine ⟨h1, v, h.obj hg h2 (by intro c; simp), h3.kept hg ?_, h4⟩
  obtain ⟨_, ⟨rfl, _⟩ | ⟨g, cap, cur, fz, rfl, _, hgr, _⟩⟩ := h3
  · exact .inl rfl
  · refine .inr (fun e => ?_)
    obtain ⟨c, hc⟩ := h g e.symm
    rw [hgr] at hc
    simp at hc

theorem Row9.bd {w w' : World} {row : Option Nat} (h : Row9 w row) (hg : w.grownBy w' row) {B b : Nat} {acc : ByteArray} (hb : Bd B b acc w) : Bd B b acc w' := by
  rcases hb with hb | hb
  · exact .inl (h.bdAt hg hb)
  · exact .inr (h.bdAt hg hb)

theorem Row9.env {w w' : World} {row : Option Nat} (h : Row9 w row) (hg : w.grownBy w' row) {L B b : Nat} {acc : ByteArray} {p : NBlk} {t0 t1 t2 n0 n1 n2 : Int} {ms : Value} (he : Env L B b acc w p t0 t1 t2 n0 n1 n2 ms (.slice none 0 0) []) (hr : ∀ k, row = some k → B ≤ k) : Env L B b acc w' p t0 t1 t2 n0 n1 n2 ms (.slice none 0 0) [] :=
  ⟨h.num hg he.num, ⟨none, 0, rfl, fun h => by simp at h⟩, h.bd hg he.bd, he.tab.below ((Below.refl B w).grown hg he.hB hr) he.hL, he.hL, Nat.le_trans he.hB hg.size, he.f0, he.f1, he.f2⟩

theorem Env.unscoped {L B b : Nat} {acc : ByteArray} {w : World} {p : NBlk} {t0 t1 t2 n0 n1 n2 : Int} {ms sv : Value} {names : List ByteArray} (h : Env L B b acc w p t0 t1 t2 n0 n1 n2 ms sv names) : Env L B b acc w p t0 t1 t2 n0 n1 n2 ms (.slice none 0 0) [] :=
  ⟨h.num, ⟨none, 0, rfl, fun h => by simp at h⟩, h.bd, h.tab, h.hL, h.hB, h.f0, h.f1, h.f2⟩

theorem set_grown (w : World) (g i : Nat) (v : Value) : w.grownBy (w.setCell ⟨g, i, none⟩ v) (some g) :=
  ⟨rfl, rfl, rfl, by rw [World.size_setCell]; exact Nat.le_refl _, fun k _ hne => Below.heap_setCell _ _ _ _ (fun e => hne (by rw [e]))⟩

theorem sort_any (w : World) (sv : Value) (names : List ByteArray) (h : Scope w sv names) (hl : names.length ≤ 1000) :
    Calls Ybad.prog 9 #[sv] w fun e w' => e = .returned (.tuple #[]) ∧ Scope w' sv (sortB names) ∧ ∃ row, Row9 w row ∧ (∀ k, row = some k → ∃ n c, sv = .slice (some ⟨k, 0, none⟩) n c) ∧ w.grownBy w' row := by
  obtain ⟨a, c, rfl, h2⟩ := h
  by_cases hp : 0 < names.length
  · obtain ⟨g, cur, rfl, h4, h5⟩ := h2 hp
    have hg : g < w.heap.size := (Array.getElem?_eq_some_iff.1 h4).1
    have hH : Go.Sort.Holds encStr w g 0 (names.map fun x => x.data.toList).toArray := by
      intro j hj
      have hj' : j < names.length := by simpa using hj
      refine ⟨?_, by simp [World.frozen?, h4]⟩
      rw [Nat.zero_add, cell_row h4 (h5 j hj')]
      simp [encStr, hj']
    have hc := Ybad.slices_Sort_string g 0 c (names.map fun x => x.data.toList) w hH hg (by simp; omega)
    rw [List.length_map] at hc
    refine hc.mono ?_
    rintro e w' ⟨rfl, n, os, rfl⟩
    have hlen : (sortB names).length = names.length := sortB_length names
    refine ⟨rfl, ⟨some ⟨g, 0, none⟩, c, by rw [hlen], fun _ => ⟨g, _, rfl, heap_sorted _ h4, fun j hj => ?_⟩⟩, some g, ?_, ?_, grownBy_sorted _⟩
    · have hj' : j < ((names.map fun x => x.data.toList).mergeSort fun x y => decide (x ≤ y)).length := by simp; omega
      have hcs : j < cur.size := (Array.getElem?_eq_some_iff.1 (h5 j (by omega))).1
      simp only [Go.Sort.putCells, Array.getElem?_mapIdx, Array.getElem?_eq_getElem hcs, Option.map_some, Nat.zero_le, true_and, Nat.zero_add]
      rw [if_pos (by simpa using hj')]
      simp only [sortB, List.getElem_map]
      simp only [encStr, Nat.sub_zero, List.getElem!_toArray]
      rw [getElem!_pos _ j hj']
    · rintro k ⟨⟩
      exact ⟨_, h4⟩
    · rintro k ⟨⟩
      exact ⟨_, _, rfl⟩
  · have e : names = [] := List.eq_nil_of_length_eq_zero (by omega)
    subst e
    refine (Ybad.slices_Sort_string_none a c w).mono ?_
    rintro e w' ⟨rfl, rfl⟩
    exact ⟨rfl, ⟨a, c, by rw [sortB_length], fun h => by simp [sortB_length] at h⟩, none, by rintro k ⟨⟩, by rintro k ⟨⟩, ⟨rfl, rfl, rfl, Nat.le_refl _, fun _ _ _ => rfl⟩⟩
end Go.Proofs.YbulkbmowDoor
