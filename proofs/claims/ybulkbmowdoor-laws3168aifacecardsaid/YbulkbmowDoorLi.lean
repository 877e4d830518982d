/-
  What lives in the walk of the interface's law.
-/
import Derived.Test.YbulkbmowDoorTi
import Derived.Test.YbulkbmowDoorTyf
namespace Go.Proofs.YbulkbmowDoor
open Go.RowKit Go

theorem mdOf_goodIn (np : Nat) (hn : np ≤ 2) (m : MIn) (h : m.ps.length ≤ 300) : (mdOf np m).GoodIn (scopeOf np) := by
  refine ⟨Nat.mod_lt _ (by omega), fun q hq => ?_, ?_, by simpa [mdOf] using h⟩
  · simp only [mdOf, List.mem_map] at hq
    obtain ⟨a, _, rfl⟩ := hq
    have := drawn_good a np [] hn (by simp)
    rwa [tyArgs_nil] at this
  · have := drawn_good m.rs np [] hn (by simp)
    rwa [tyArgs_nil] at this

theorem mdOf_plain (np : Nat) (m : MIn) : ∀ q ∈ (mdOf np m).fs, q.2 = [] := fun q hq => by
  simp only [mdOf, List.mem_map] at hq
  obtain ⟨a, _, rfl⟩ := hq
  rfl

theorem TyArgs.nil {w w2 : World} {v : Value} (h : TyArgs w v []) : TyArgs w2 v [] := by
  obtain ⟨a, c, h1, _⟩ := h
  exact ⟨a, c, h1, fun h => by simp at h⟩

theorem FldRow.plain {w w2 : World} {v : Value} {fs : List (ByteArray × List ByteArray)} (h : FldRow w v fs) (h0 : ∀ q ∈ fs, q.2 = []) (hk : Keeps 49 w w2) : FldRow w2 v fs := by
  obtain ⟨a, c, h1, h2⟩ := h
  refine ⟨a, c, h1, fun hp => ?_⟩
  obtain ⟨g, cur, h3, h4, h5⟩ := h2 hp
  refine ⟨g, cur, h3, hk _ _ h4, fun j hj => ?_⟩
  obtain ⟨k0, k1, k2, k3, k4, k5, av, k6, k7⟩ := h5 j hj
  refine ⟨k0, k1, k2, k3, k4, k5, av, k6, ?_⟩
  have e := h0 _ (List.getElem_mem hj)
  rw [e] at k7 ⊢
  exact k7.nil

/-- One spec of the row: name and result type; parameters and result arguments. -/
def spCells (q : (ByteArray × ByteArray) × (Value × Value)) : List Value := (specCells q.1.1 q.2.1 q.1.2 q.2.2).toList

def MatchS (w : World) (l : List ((ByteArray × ByteArray) × (Value × Value))) (ms : List MD) : Prop :=
  l.length = ms.length ∧ ∀ i (h : i < l.length) (h' : i < ms.length), l[i].1 = (mnameOf ms[i].k, ms[i].rx) ∧ (∀ q ∈ ms[i].fs, q.2 = []) ∧ FldRow w l[i].2.1 ms[i].fs ∧ TyArgs w l[i].2.2 []

theorem MatchS.nil (w : World) : MatchS w [] [] := ⟨rfl, fun i h => by simp at h⟩
theorem MatchS.keeps {w w2 : World} {l : List ((ByteArray × ByteArray) × (Value × Value))} {ms : List MD} (h : MatchS w l ms) (hk : Keeps 49 w w2) : MatchS w2 l ms :=
  ⟨h.1, fun i h1 h2 => ⟨(h.2 i h1 h2).1, (h.2 i h1 h2).2.1, (h.2 i h1 h2).2.2.1.plain (h.2 i h1 h2).2.1 hk, (h.2 i h1 h2).2.2.2.nil⟩⟩
theorem MatchS.snoc {w : World} {l : List ((ByteArray × ByteArray) × (Value × Value))} {ms : List MD} (h : MatchS w l ms) (m : MD) (x rx : ByteArray) (pv rav : Value) (hx : (x, rx) = (mnameOf m.k, m.rx)) (hp : ∀ q ∈ m.fs, q.2 = []) (hf : FldRow w pv m.fs) (ht : TyArgs w rav []) : MatchS w (l ++ [((x, rx), (pv, rav))]) (ms ++ [m]) := by
  refine ⟨by simp [h.1], fun i h1 h2 => ?_⟩
  by_cases hi : i < l.length
  · rw [List.getElem_append_left hi, List.getElem_append_left (by rw [← h.1]; exact hi)]
    exact h.2 i hi _
  · have e : i = l.length := by simp at h1; omega
    subst e
    have e2 := h.1
    rw [List.getElem_append_right (Nat.le_refl _), List.getElem_append_right (by omega)]
    simp only [Nat.sub_self, e2, List.getElem_cons_zero]
    exact ⟨hx, hp, hf, ht⟩

theorem specRow_own {w : World} {B : Nat} {v : Value} {l : List ((ByteArray × ByteArray) × (Value × Value))} {ms : List MD} (h : w.ownsRow B 83 9 v l.length (l.flatMap spCells)) (hm : MatchS w l ms) : SpecRow w v ms := by
  obtain ⟨_, ⟨rfl, hn⟩ | ⟨g, cap, cur, rfl, _, hg, _, _, _, ht⟩⟩ := h
  · exact ⟨none, 0, by rw [← hm.1, hn], fun hp => by rw [← hm.1] at hp; omega⟩
  · refine ⟨_, cap, by rw [hm.1], fun _ => ⟨g, cur, rfl, hg, fun j hj => ?_⟩⟩
    have hj' : j < l.length := by rw [hm.1]; exact hj
    have hmj := hm.2 j hj' hj
    refine ⟨l[j].2.1, l[j].2.2, fun i hi => ?_, hmj.2.2.1, hmj.2.2.2⟩
    have e := flat_get spCells 9 (fun _ => rfl) l j hj' i hi
    have hx1 : l[j].1.1 = mnameOf ms[j].k := by rw [hmj.1]
    have hx2 : l[j].1.2 = ms[j].rx := by rw [hmj.1]
    have e2 : (spCells l[j])[i]? = (specCells (mnameOf ms[j].k) l[j].2.1 ms[j].rx l[j].2.2)[i]? := by
      unfold spCells
      rw [hx1, hx2]
      simp
    rw [e2] at e
    have hsz : i < (specCells (mnameOf ms[j].k) l[j].2.1 ms[j].rx l[j].2.2).size := hi
    rw [Array.getElem?_eq_getElem hsz] at e ⊢
    exact take_cell ht e

/-- The arguments' row, apart from the row that grows. -/
def TyArgsX (w : World) (row : Option Nat) (v : Value) (args : List ByteArray) : Prop := TyArgs w v args ∧ (0 < args.length → v.ownBlock ≠ row)

theorem TyArgs.at {w w2 : World} {v : Value} {args : List ByteArray} (h : TyArgs w v args) (hk : 0 < args.length → ∀ k c, v.ownBlock = some k → w.heap[k]? = some (Obj.cells c 43 (0, 0)) → w2.heap[k]? = some (Obj.cells c 43 (0, 0))) : TyArgs w2 v args := by
  obtain ⟨a, c, rfl, h2⟩ := h
  refine ⟨a, c, rfl, fun hp => ?_⟩
  obtain ⟨g, cur, rfl, h4, h5⟩ := h2 hp
  exact ⟨g, cur, rfl, hk hp g cur rfl h4, h5⟩

/-- An embedded type's cells. -/
def embCells (q : ByteArray × Value) : List Value := [.int .i64 0, .int .i64 0, .string q.1, q.2]

def MatchE (w : World) (row : Option Nat) (l : List (ByteArray × Value)) (es : List (ByteArray × List ByteArray)) : Prop :=
  l.length = es.length ∧ ∀ i (h : i < l.length) (h' : i < es.length), l[i].1 = es[i].1 ∧ TyArgsX w row l[i].2 es[i].2

theorem MatchE.nil (w : World) (row : Option Nat) : MatchE w row [] [] := ⟨rfl, fun i h => by simp at h⟩
theorem MatchE.snoc {w : World} {row : Option Nat} {l : List (ByteArray × Value)} {es : List (ByteArray × List ByteArray)} (h : MatchE w row l es) (x : ByteArray) (av : Value) (args : List ByteArray) (ht : TyArgsX w row av args) : MatchE w row (l ++ [(x, av)]) (es ++ [(x, args)]) := by
  refine ⟨by simp [h.1], fun i h1 h2 => ?_⟩
  by_cases hi : i < l.length
  · rw [List.getElem_append_left hi, List.getElem_append_left (by rw [← h.1]; exact hi)]
    exact h.2 i hi _
  · have e : i = l.length := by simp at h1; omega
    subst e
    have e2 := h.1
    rw [List.getElem_append_right (Nat.le_refl _), List.getElem_append_right (by omega)]
    simp only [Nat.sub_self, e2, List.getElem_cons_zero]
    exact ⟨trivial, ht⟩
theorem MatchE.map {w w2 : World} {row row2 : Option Nat} {l : List (ByteArray × Value)} {es : List (ByteArray × List ByteArray)} (h : MatchE w row l es) (hk : ∀ v args, TyArgsX w row v args → TyArgsX w2 row2 v args) : MatchE w2 row2 l es :=
  ⟨h.1, fun i h1 h2 => ⟨(h.2 i h1 h2).1, hk _ _ (h.2 i h1 h2).2⟩⟩
theorem TyArgsX.below {w w2 : World} {row : Option Nat} {v : Value} {args : List ByteArray} (h : TyArgsX w row v args) (hb : Below w.heap.size w w2) : TyArgsX w2 row v args := ⟨h.1.below hb, h.2⟩

theorem embRow_own {w : World} {B : Nat} {v : Value} {row : Option Nat} {l : List (ByteArray × Value)} {es : List (ByteArray × List ByteArray)} (h : w.ownsRow B 43 4 v l.length (l.flatMap embCells)) (hm : MatchE w row l es) : EmbRow w v es := by
  obtain ⟨_, ⟨rfl, hn⟩ | ⟨g, cap, cur, rfl, _, hg, _, _, _, ht⟩⟩ := h
  · exact ⟨none, 0, by rw [← hm.1, hn], fun hp => by rw [← hm.1] at hp; omega⟩
  · refine ⟨_, cap, by rw [hm.1], fun _ => ⟨g, cur, rfl, hg, fun j hj => ?_⟩⟩
    have hj' : j < l.length := by rw [hm.1]; exact hj
    have e := fun i hi => flat_get embCells 4 (fun _ => rfl) l j hj' i hi
    have hmj := hm.2 j hj' hj
    exact ⟨take_cell ht (by rw [show j * 4 = j * 4 + 0 from rfl, e 0 (by omega)]; rfl), take_cell ht (by rw [e 1 (by omega)]; rfl), take_cell ht (by rw [e 2 (by omega), ← hmj.1]; rfl), l[j].2, take_cell ht (by rw [e 3 (by omega)]; rfl), hmj.2.1⟩

theorem TyArgs.blk {w : World} {v : Value} {args : List ByteArray} (h : TyArgs w v args) (hp : 0 < args.length) : ∃ k c, v.ownBlock = some k ∧ w.heap[k]? = some (Obj.cells c 43 (0, 0)) := by
  obtain ⟨a, c, rfl, h2⟩ := h
  obtain ⟨g, cur, rfl, h4, _⟩ := h2 hp
  exact ⟨g, cur, rfl, h4⟩

/-- The world behind an append of an embedded type and its two stores. -/
structure EmbDone (T D : Nat) (dc : Array Value) (w V : World) (v nv : Value) (n : Nat) (xs : List Value) : Prop where
  own : V.ownsRow T 43 4 nv n xs
  d : V.heap[D]? = some (.cells (dc.setIfInBounds 5 nv) 81 (0, 0))
  keeps : ∀ t, t ≠ 81 → t ≠ 43 → Keeps t w V
  size : w.heap.size ≤ V.heap.size
  bel : ∀ B w0, B ≤ D → B ≤ T → Below B w0 w → Below B w0 V
  x : ∀ u args, TyArgsX w v.ownBlock u args → TyArgsX V nv.ownBlock u args

theorem emb_done {T D j g5 cap5 : Nat} {dc : Array Value} {w w2 : World} {v : Value} {xs : List Value} {o : Obj} (x : ByteArray) (av : Value) (hown : w.ownsRow T 43 4 v j xs) (hd : w.heap[D]? = some (.cells dc 81 (0, 0))) (hDT : D < T) (hT : T ≤ w.heap.size) (hg : (w.alloc o).grownBy w2 v.ownBlock) (hown2 : w2.ownsRow T 43 4 (.slice (some ⟨g5, 0, none⟩) (j + 1) cap5) (j + 1) (xs ++ [.int .i64 0, .int .i64 0, .string ⟨#[]⟩, .slice none 0 0])) (hat : v.ownBlock = some g5 ∨ g5 = w.heap.size + 1) :
    EmbDone T D dc w (((((w2.setCell ⟨g5, j * 4, none⟩ (.int .i64 0)).setCell ⟨g5, j * 4 + 1, none⟩ (.int .i64 0)).setCell ⟨g5, j * 4 + 2, none⟩ (.string x)).setCell ⟨g5, j * 4 + 3, none⟩ av).setCell ⟨D, 5, none⟩ (.slice (some ⟨g5, 0, none⟩) (j + 1) cap5)) v (.slice (some ⟨g5, 0, none⟩) (j + 1) cap5) (j + 1) (xs ++ embCells (x, av)) := by
  have hxs : xs.length = j * 4 := hown.1
  have hsz : w.heap.size + 1 ≤ w2.heap.size := by have := hg.size; simpa using this
  have hg5 : T ≤ g5 := (hown2.lt g5 rfl).1
  have hDg : D ≠ g5 := by omega
  have hd2 := far_row hown hd hDT hT hg
  have o1 := (hown2.stored (j * 4) (.int .i64 0)).1
  have o2 := (o1.stored (j * 4 + 1) (.int .i64 0)).1
  have o3 := (o2.stored (j * 4 + 2) (.string x)).1
  have o4 := (o3.stored (j * 4 + 3) av).1
  have hls : ((((xs ++ [Value.int .i64 0, Value.int .i64 0, Value.string ⟨#[]⟩, Value.slice none 0 0]).set (j * 4) (Value.int .i64 0)).set (j * 4 + 1) (Value.int .i64 0)).set (j * 4 + 2) (Value.string x)).set (j * 4 + 3) av = xs ++ embCells (x, av) := by
    rw [List.set_append_right _ _ (by omega), List.set_append_right _ _ (by omega), List.set_append_right _ _ (by omega), List.set_append_right _ _ (by omega), hxs]
    have e0 : j * 4 - j * 4 = 0 := by omega
    have e1 : j * 4 + 1 - j * 4 = 1 := by omega
    have e2 : j * 4 + 2 - j * 4 = 2 := by omega
    have e3 : j * 4 + 3 - j * 4 = 3 := by omega
    rw [e0, e1, e2, e3]
    rfl
  rw [hls] at o4
  have hd3 : ((((w2.setCell ⟨g5, j * 4, none⟩ (.int .i64 0)).setCell ⟨g5, j * 4 + 1, none⟩ (.int .i64 0)).setCell ⟨g5, j * 4 + 2, none⟩ (.string x)).setCell ⟨g5, j * 4 + 3, none⟩ av).heap[D]? = some (.cells dc 81 (0, 0)) := by
    rw [Below.heap_setCell _ _ _ _ hDg, Below.heap_setCell _ _ _ _ hDg, Below.heap_setCell _ _ _ _ hDg, Below.heap_setCell _ _ _ _ hDg]
    exact hd2
  have ty0 : Typed w2 g5 43 := by
    obtain ⟨_, ⟨hno, _⟩ | ⟨g', cap', cur, hv', _, hgr, _⟩⟩ := hown2
    · simp at hno
    · simp only [Value.slice.injEq, Option.some.injEq, Addr.mk.injEq, and_true, true_and] at hv'
      obtain ⟨rfl, _⟩ := hv'
      exact ⟨_, hgr⟩
  have ty1 := ty0.set g5 (j * 4) (.int .i64 0)
  have ty2 := ty1.set g5 (j * 4 + 1) (.int .i64 0)
  have ty3 := ty2.set g5 (j * 4 + 2) (.string x)
  refine ⟨ownsRow_setCell_below o4 hDT _, setCell_row _ D 5 dc 81 _ hd3, fun t h1 h2 => ?_, by simp only [World.size_setCell]; omega, fun B w0 hB hB' hb => ?_, fun u args hu => ?_⟩
  · exact ((((((Keeps.alloc t w o).trans (Keeps.grown (hown.alloc o) h2.symm hg)).trans (ty0.keeps h2.symm _ _)).trans (ty1.keeps h2.symm _ _)).trans (ty2.keeps h2.symm _ _)).trans (ty3.keeps h2.symm _ _)).trans (Keeps.setCell hd3 h1.symm _)
  · have hBg : B ≤ g5 := by omega
    refine ((((((hb.alloc (by omega) o).grown hg (by simp; omega) (fun k hk => ?_)).setCell hBg _).setCell hBg _).setCell hBg _).setCell hBg _).setCell hB _
    have := (hown.lt k hk).1
    omega
  · have key : 0 < args.length → ∀ k c, u.ownBlock = some k → w.heap[k]? = some (Obj.cells c 43 (0, 0)) → k ≠ g5 := fun hp k c hk hc he => by
      subst he
      rcases hat with hat | hat
      · exact hu.2 hp (by rw [hk, hat])
      · have := (Array.getElem?_eq_some_iff.1 hc).1
        omega
    refine ⟨hu.1.at (fun hp k c hk hc => ?_), fun hp he => ?_⟩
    · have hkg := key hp k c hk hc
      have hkl := (Array.getElem?_eq_some_iff.1 hc).1
      have hkD : k ≠ D := by
        rintro rfl
        rw [hc] at hd
        injection hd with hd
        injection hd with _ h2
        exact absurd h2 (by decide)
      rw [Below.heap_setCell _ _ _ _ hkD, Below.heap_setCell _ _ _ _ hkg, Below.heap_setCell _ _ _ _ hkg, Below.heap_setCell _ _ _ _ hkg, Below.heap_setCell _ _ _ _ hkg, hg.block k (by simp; omega) (by rw [← hk]; exact hu.2 hp), heap_alloc_oldD _ _ hkl]
      exact hc
    · obtain ⟨k, c, hk, hc⟩ := hu.1.blk hp
      exact key hp k c hk hc (by rw [hk] at he; simpa [Value.ownBlock] using he)

/-- What lives while the interface's law builds its declaration. -/
structure LiSt (S TN : Nat) (w wr : World) (b0 b1 : Nat) (t0 t1 t2 n0 n1 n2 : Int) (dn : ByteArray) (pv mv ev : Value) : Prop where
  s : wr.heap[S]? = some (.cells #[.int .u8 b0, .int .u8 b1] 22 (0, 0))
  tn : wr.heap[TN]? = some (.cells #[.int .i64 t0, .int .i64 t1, .int .i64 t2] 30 (0, 0))
  nn : wr.heap[TN + 1]? = some (.cells #[.int .i64 n0, .int .i64 n1, .int .i64 n2] 30 (0, 0))
  d : wr.heap[TN + 1 + 1]? = some (.cells #[.int .i64 0, .int .i64 0, .string dn, pv, mv, ev] 81 (0, 0))
  b : Below S w wr
  o1 : S ≤ TN + 1 + 1
  o3 : TN + 1 + 1 + 1 ≤ wr.heap.size

section
variable {S TN : Nat} {w wr w2 : World} {b0 b1 : Nat} {t0 t1 t2 n0 n1 n2 : Int} {dn : ByteArray} {pv mv ev pv' mv' ev' : Value}
theorem LiSt.below (h : LiSt S TN w wr b0 b1 t0 t1 t2 n0 n1 n2 dn pv mv ev) (hb : Below wr.heap.size wr w2) : LiSt S TN w w2 b0 b1 t0 t1 t2 n0 n1 n2 dn pv mv ev :=
  ⟨Keeps.below hb _ _ h.s, Keeps.below hb _ _ h.tn, Keeps.below hb _ _ h.nn, Keeps.below hb _ _ h.d, h.b.trans (hb.mono (by have := h.o1; have := h.o3; omega)), h.o1, Nat.le_trans h.o3 hb.size⟩
theorem LiSt.move (h : LiSt S TN w wr b0 b1 t0 t1 t2 n0 n1 n2 dn pv mv ev) (k1 : Keeps 22 wr w2) (k2 : Keeps 30 wr w2) (hd : w2.heap[TN + 1 + 1]? = some (.cells #[.int .i64 0, .int .i64 0, .string dn, pv', mv', ev'] 81 (0, 0))) (hb : Below S w w2) (hs : wr.heap.size ≤ w2.heap.size) : LiSt S TN w w2 b0 b1 t0 t1 t2 n0 n1 n2 dn pv' mv' ev' :=
  ⟨k1 _ _ h.s, k2 _ _ h.tn, k2 _ _ h.nn, hd, hb, h.o1, Nat.le_trans h.o3 hs⟩
theorem LiSt.grewP {v nv : Value} {n : Nat} {xs : List Value} (h : LiSt S TN w wr b0 b1 t0 t1 t2 n0 n1 n2 dn pv mv ev) (hG : Grew (TN + 1 + 1 + 1) (TN + 1 + 1) 3 81 #[.int .i64 0, .int .i64 0, .string dn, pv, mv, ev] 47 7 wr w2 v nv n xs) : LiSt S TN w w2 b0 b1 t0 t1 t2 n0 n1 n2 dn nv mv ev :=
  h.move (hG.keeps 22 (by decide) (by decide)) (hG.keeps 30 (by decide) (by decide)) (by rw [hG.d]; rfl) (hG.bel S w h.o1 (by have := h.o1; omega) h.b) hG.size
theorem LiSt.grewS {v nv : Value} {n : Nat} {xs : List Value} (h : LiSt S TN w wr b0 b1 t0 t1 t2 n0 n1 n2 dn pv mv ev) (hG : Grew (TN + 1 + 1 + 1) (TN + 1 + 1) 4 81 #[.int .i64 0, .int .i64 0, .string dn, pv, mv, ev] 83 9 wr w2 v nv n xs) : LiSt S TN w w2 b0 b1 t0 t1 t2 n0 n1 n2 dn pv nv ev :=
  h.move (hG.keeps 22 (by decide) (by decide)) (hG.keeps 30 (by decide) (by decide)) (by rw [hG.d]; rfl) (hG.bel S w h.o1 (by have := h.o1; omega) h.b) hG.size
theorem LiSt.grewE {v nv : Value} {n : Nat} {xs : List Value} (h : LiSt S TN w wr b0 b1 t0 t1 t2 n0 n1 n2 dn pv mv ev) (hG : EmbDone (TN + 1 + 1 + 1) (TN + 1 + 1) #[.int .i64 0, .int .i64 0, .string dn, pv, mv, ev] wr w2 v nv n xs) : LiSt S TN w w2 b0 b1 t0 t1 t2 n0 n1 n2 dn pv mv nv :=
  h.move (hG.keeps 22 (by decide) (by decide)) (hG.keeps 30 (by decide) (by decide)) (by rw [hG.d]; rfl) (hG.bel S w h.o1 (by have := h.o1; omega) h.b) hG.size
theorem LiSt.grown {e : TypeId} (h : LiSt S TN w wr b0 b1 t0 t1 t2 n0 n1 n2 dn pv mv ev) (hg : Grown (TN + 1 + 1 + 1) e wr w2) (h1 : 22 ≠ e) (h2 : 30 ≠ e) (h3 : 81 ≠ e) : LiSt S TN w w2 b0 b1 t0 t1 t2 n0 n1 n2 dn pv mv ev :=
  h.move (hg.keeps 22 h1) (hg.keeps 30 h2) (hg.keeps 81 h3 _ _ h.d) (hg.bel S w (by have := h.o1; omega) h.o3 h.b) hg.size
end

theorem li_start {S : Nat} {w wr : World} {b0 b1 : Nat} (t0 t1 t2 n0 n1 n2 : Int) (dn : ByteArray) (hs : wr.heap[S]? = some (.cells #[.int .u8 b0, .int .u8 b1] 22 (0, 0))) (hb : Below S w wr) :
    LiSt S wr.heap.size w (((wr.alloc (.cells #[.int .i64 t0, .int .i64 t1, .int .i64 t2] 30)).alloc (.cells #[.int .i64 n0, .int .i64 n1, .int .i64 n2] 30)).alloc (.cells #[.int .i64 0, .int .i64 0, .string dn, .slice none 0 0, .slice none 0 0, .slice none 0 0] 81)) b0 b1 t0 t1 t2 n0 n1 n2 dn (.slice none 0 0) (.slice none 0 0) (.slice none 0 0) := by
  have hS : S < wr.heap.size := (Array.getElem?_eq_some_iff.1 hs).1
  obtain ⟨r1, r2⟩ := two_rows wr (.cells #[.int .i64 t0, .int .i64 t1, .int .i64 t2] 30) (.cells #[.int .i64 n0, .int .i64 n1, .int .i64 n2] 30)
  have hb2 := two_below wr (.cells #[.int .i64 t0, .int .i64 t1, .int .i64 t2] 30) (.cells #[.int .i64 n0, .int .i64 n1, .int .i64 n2] 30)
  have r3 := heap_alloc_newD ((wr.alloc (.cells #[.int .i64 t0, .int .i64 t1, .int .i64 t2] 30)).alloc (.cells #[.int .i64 n0, .int .i64 n1, .int .i64 n2] 30)) (.cells #[.int .i64 0, .int .i64 0, .string dn, .slice none 0 0, .slice none 0 0, .slice none 0 0] 81)
  refine ⟨Keeps.alloc _ _ _ _ _ (Keeps.below hb2 _ _ hs), Keeps.alloc _ _ _ _ _ r1, Keeps.alloc _ _ _ _ _ r2, by simpa using r3, (hb.trans (hb2.mono (by omega))).alloc (by simp; omega) _, by omega, by simp⟩

/-- What lives once the interface's declaration is built. -/
structure IMid (S TN : Nat) (w wr : World) (b0 b1 : Nat) (t0 t1 t2 n0 n1 n2 : Int) (dn : ByteArray) (pv mv ev : Value) (ps : List (ByteArray × ByteArray)) (ms : List MD) (es : List (ByteArray × List ByteArray)) : Prop where
  lw : LiSt S TN w wr b0 b1 t0 t1 t2 n0 n1 n2 dn pv mv ev
  pr : ParRow wr pv ps
  sp : SpecRow wr mv ms
  em : EmbRow wr ev es

section
variable {S TN : Nat} {w wr w2 : World} {b0 b1 : Nat} {t0 t1 t2 n0 n1 n2 : Int} {dn : ByteArray} {pv mv ev : Value} {ps : List (ByteArray × ByteArray)} {ms : List MD} {es : List (ByteArray × List ByteArray)}
theorem IMid.keeps (h : IMid S TN w wr b0 b1 t0 t1 t2 n0 n1 n2 dn pv mv ev ps ms es) (hk : ∀ t, t ∈ ([22, 30, 81, 43, 47, 49, 83] : List TypeId) → Keeps t wr w2) (hb : Below S w w2) (hs : wr.heap.size ≤ w2.heap.size) : IMid S TN w w2 b0 b1 t0 t1 t2 n0 n1 n2 dn pv mv ev ps ms es :=
  ⟨h.lw.move (hk 22 (by decide)) (hk 30 (by decide)) (hk 81 (by decide) _ _ h.lw.d) hb hs, h.pr.keeps (hk 47 (by decide)), h.sp.keeps (fun t ht => hk t (by simp at ht ⊢; rcases ht with rfl | rfl | rfl <;> simp)), h.em.keeps (hk 43 (by decide))⟩
theorem IMid.below (h : IMid S TN w wr b0 b1 t0 t1 t2 n0 n1 n2 dn pv mv ev ps ms es) (hb : Below wr.heap.size wr w2) : IMid S TN w w2 b0 b1 t0 t1 t2 n0 n1 n2 dn pv mv ev ps ms es :=
  h.keeps (fun _ _ => Keeps.below hb) (h.lw.below hb).b hb.size
end

theorem info83 : (Ybad.prog.info? 83).map (fun i => (i.zero, i.size, i.bytes)) = some (some (.agg #[.int .i64 0, .int .i64 0, .string ⟨#[]⟩, .slice none 0 0, .slice none 0 0, .int .i64 0, .int .i64 0, .string ⟨#[]⟩, .slice none 0 0]), 9, 136) := by kernel_rfl
end Go.Proofs.YbulkbmowDoor
