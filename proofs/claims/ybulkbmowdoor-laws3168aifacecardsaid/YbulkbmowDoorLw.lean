/-
  What comes in to the struct's law, and what lives in its walk.
-/
import Derived.Test.YbulkbmowDoorTdw
namespace Go.Proofs.YbulkbmowDoor
open Go.RowKit Go

theorem U8Row.below {w w' : World} {v : Value} {args : List Nat} (h : U8Row w v args) (hb : Below w.heap.size w w') : U8Row w' v args := by
  obtain ⟨a, c, h1, h2, h3⟩ := h
  refine ⟨a, c, h1, h2, fun hp => ?_⟩
  obtain ⟨g, o, h4, h5⟩ := h3 hp
  exact ⟨g, o, h4, fun j hj => (hb.cell (World.block_lt_of_cell? w _ (h5 j hj))).trans (h5 j hj)⟩

/-- Types drawn from data that came in: selector and arguments. -/
def InF (w : World) (v : Value) (l : List (Nat × List Nat)) : Prop :=
  ∃ a c, v = .slice a l.length c ∧ (0 < l.length → ∃ g o, a = some ⟨g, o, none⟩ ∧ ∀ j (h : j < l.length), l[j].1 < 256 ∧ w.cell? ⟨g, o + j * 2, none⟩ = some (.int .u8 l[j].1) ∧ ∃ av, w.cell? ⟨g, o + j * 2 + 1, none⟩ = some av ∧ U8Row w av l[j].2)

/-- A method drawn from data. -/
structure MIn where
  nm : Nat
  ps : List Nat
  rs : Nat

/-- Methods drawn from data that came in: name, parameters, result. -/
def InM (w : World) (v : Value) (l : List MIn) : Prop :=
  ∃ a c, v = .slice a l.length c ∧ (0 < l.length → ∃ g o, a = some ⟨g, o, none⟩ ∧ ∀ j (h : j < l.length), l[j].nm < 256 ∧ l[j].rs < 256 ∧ w.cell? ⟨g, o + j * 3, none⟩ = some (.int .u8 l[j].nm) ∧ w.cell? ⟨g, o + j * 3 + 2, none⟩ = some (.int .u8 l[j].rs) ∧ ∃ av, w.cell? ⟨g, o + j * 3 + 1, none⟩ = some av ∧ U8Row w av l[j].ps)

def bnd (b0 b1 j : Nat) : Nat := if j = 0 then b0 else b1
def psOf (np b0 b1 : Nat) : List (ByteArray × ByteArray) := (List.range np).map fun j => (pnameOf j, tyName (bnd b0 b1 j) np)
def fsOf (np : Nat) (l : List (Nat × List Nat)) : List (ByteArray × List ByteArray) := l.map fun q => (tyName q.1 np, tyArgs q.1 np q.2)
def mdOf (np : Nat) (m : MIn) : MD := ⟨m.nm % 3, m.ps.map fun a => (tyName a np, []), tyName m.rs np⟩

theorem ps_names (np b0 b1 : Nat) : (psOf np b0 b1).map (·.1) = scopeOf np := by
  unfold psOf scopeOf
  rw [List.map_map]
  rfl

theorem tyName_ok (sel np : Nat) (hn : np ≤ 2) : OkName (scopeOf np) (tyName sel np) := (drawn_good sel np [] hn (by simp)).1

theorem mdOf_good (m : MIn) (h : m.ps.length ≤ 300) : (mdOf 0 m).Good := by
  have e : scopeOf 0 = [] := rfl
  refine ⟨Nat.mod_lt _ (by omega), fun q hq => ?_, ?_, by simpa [mdOf] using h⟩
  · simp only [mdOf, List.mem_map] at hq
    obtain ⟨a, _, rfl⟩ := hq
    have := drawn_good a 0 [] (by omega) (by simp)
    rwa [tyArgs_nil, e] at this
  · have := drawn_good m.rs 0 [] (by omega) (by simp)
    rwa [tyArgs_nil, e] at this

theorem num_zero : num 0 = ⟨#[48]⟩ := by
  unfold num
  have : Lib.itoa 0 = [48] := by kernel_rfl
  rw [this]

/-- What lives while the law builds its declaration. -/
structure LwSt (S TN NN D T : Nat) (w wr : World) (b0 b1 : Nat) (t0 t1 t2 n0 n1 n2 : Int) (dn : ByteArray) (pv fv : Value) : Prop where
  s : wr.heap[S]? = some (.cells #[.int .u8 b0, .int .u8 b1] 22 (0, 0))
  tn : wr.heap[TN]? = some (.cells #[.int .i64 t0, .int .i64 t1, .int .i64 t2] 30 (0, 0))
  nn : wr.heap[NN]? = some (.cells #[.int .i64 n0, .int .i64 n1, .int .i64 n2] 30 (0, 0))
  d : wr.heap[D]? = some (.cells #[.int .i64 0, .int .i64 0, .string dn, pv, fv] 40 (0, 0))
  b : Below S w wr
  o1 : S ≤ D
  o2 : D < T
  o3 : T ≤ wr.heap.size

section
variable {S TN NN D T : Nat} {w wr w2 : World} {b0 b1 : Nat} {t0 t1 t2 n0 n1 n2 : Int} {dn : ByteArray} {pv fv pv' fv' : Value}
theorem LwSt.below (h : LwSt S TN NN D T w wr b0 b1 t0 t1 t2 n0 n1 n2 dn pv fv) (hb : Below wr.heap.size wr w2) : LwSt S TN NN D T w w2 b0 b1 t0 t1 t2 n0 n1 n2 dn pv fv :=
  ⟨Keeps.below hb _ _ h.s, Keeps.below hb _ _ h.tn, Keeps.below hb _ _ h.nn, Keeps.below hb _ _ h.d, h.b.trans (hb.mono (by have := h.o1; have := h.o2; have := h.o3; omega)), h.o1, h.o2, Nat.le_trans h.o3 hb.size⟩
theorem LwSt.move (h : LwSt S TN NN D T w wr b0 b1 t0 t1 t2 n0 n1 n2 dn pv fv) (k1 : Keeps 22 wr w2) (k2 : Keeps 30 wr w2) (hd : w2.heap[D]? = some (.cells #[.int .i64 0, .int .i64 0, .string dn, pv', fv'] 40 (0, 0))) (hb : Below S w w2) (hs : wr.heap.size ≤ w2.heap.size) : LwSt S TN NN D T w w2 b0 b1 t0 t1 t2 n0 n1 n2 dn pv' fv' :=
  ⟨k1 _ _ h.s, k2 _ _ h.tn, k2 _ _ h.nn, hd, hb, h.o1, h.o2, Nat.le_trans h.o3 hs⟩
theorem LwSt.grewP {v nv : Value} {n : Nat} {xs : List Value} (h : LwSt S TN NN D T w wr b0 b1 t0 t1 t2 n0 n1 n2 dn pv fv) (hG : Grew T D 3 40 #[.int .i64 0, .int .i64 0, .string dn, pv, fv] 47 7 wr w2 v nv n xs) : LwSt S TN NN D T w w2 b0 b1 t0 t1 t2 n0 n1 n2 dn nv fv :=
  h.move (hG.keeps 22 (by decide) (by decide)) (hG.keeps 30 (by decide) (by decide)) (by rw [hG.d]; rfl) (hG.bel S w h.o1 (by have := h.o1; have := h.o2; omega) h.b) hG.size
theorem LwSt.grewF {v nv : Value} {n : Nat} {xs : List Value} (h : LwSt S TN NN D T w wr b0 b1 t0 t1 t2 n0 n1 n2 dn pv fv) (hG : Grew T D 4 40 #[.int .i64 0, .int .i64 0, .string dn, pv, fv] 49 7 wr w2 v nv n xs) : LwSt S TN NN D T w w2 b0 b1 t0 t1 t2 n0 n1 n2 dn pv nv :=
  h.move (hG.keeps 22 (by decide) (by decide)) (hG.keeps 30 (by decide) (by decide)) (by rw [hG.d]; rfl) (hG.bel S w h.o1 (by have := h.o1; have := h.o2; omega) h.b) hG.size
end

theorem lw_start {S : Nat} {w wr : World} {b0 b1 : Nat} (t0 t1 t2 n0 n1 n2 : Int) (dn : ByteArray) (hs : wr.heap[S]? = some (.cells #[.int .u8 b0, .int .u8 b1] 22 (0, 0))) (hb : Below S w wr) :
    LwSt S wr.heap.size (wr.heap.size + 1) (wr.heap.size + 1 + 1) (wr.heap.size + 1 + 1 + 1) w (((wr.alloc (.cells #[.int .i64 t0, .int .i64 t1, .int .i64 t2] 30)).alloc (.cells #[.int .i64 n0, .int .i64 n1, .int .i64 n2] 30)).alloc (.cells #[.int .i64 0, .int .i64 0, .string dn, .slice none 0 0, .slice none 0 0] 40)) b0 b1 t0 t1 t2 n0 n1 n2 dn (.slice none 0 0) (.slice none 0 0) := by
  have hS : S < wr.heap.size := (Array.getElem?_eq_some_iff.1 hs).1
  obtain ⟨r1, r2⟩ := two_rows wr (.cells #[.int .i64 t0, .int .i64 t1, .int .i64 t2] 30) (.cells #[.int .i64 n0, .int .i64 n1, .int .i64 n2] 30)
  have hb2 := two_below wr (.cells #[.int .i64 t0, .int .i64 t1, .int .i64 t2] 30) (.cells #[.int .i64 n0, .int .i64 n1, .int .i64 n2] 30)
  have r3 := heap_alloc_newD ((wr.alloc (.cells #[.int .i64 t0, .int .i64 t1, .int .i64 t2] 30)).alloc (.cells #[.int .i64 n0, .int .i64 n1, .int .i64 n2] 30)) (.cells #[.int .i64 0, .int .i64 0, .string dn, .slice none 0 0, .slice none 0 0] 40)
  refine ⟨Keeps.alloc _ _ _ _ _ (Keeps.below hb2 _ _ hs), Keeps.alloc _ _ _ _ _ r1, Keeps.alloc _ _ _ _ _ r2, by simpa using r3, (hb.trans (hb2.mono (by omega))).alloc (by simp; omega) _, by omega, by omega, by simp⟩

theorem far_row {T D : Nat} {td e : TypeId} {dc : Array Value} {s j : Nat} {w w2 : World} {v : Value} {xs : List Value} {o : Obj} (hown : w.ownsRow T e s v j xs) (hd : w.heap[D]? = some (.cells dc td (0, 0))) (hDT : D < T) (hT : T ≤ w.heap.size) (hg : (w.alloc o).grownBy w2 v.ownBlock) : w2.heap[D]? = some (.cells dc td (0, 0)) := by
  have hne : some D ≠ v.ownBlock := fun h => by
    have := (hown.lt D h.symm).1
    omega
  rw [hg.block D (by simp; omega) hne, heap_alloc_oldD _ _ (by omega)]
  exact hd

theorem owns_below {w w2 : World} {B n s : Nat} {e : TypeId} {v : Value} {xs : List Value} (h : w.ownsRow B e s v n xs) (hb : Below w.heap.size w w2) : w2.ownsRow B e s v n xs := by
  refine h.kept (grown_none hb) ?_
  cases v.ownBlock with
  | none => exact .inl rfl
  | some g => exact .inr (by simp)

theorem info47 : (Ybad.prog.info? 47).map (fun i => (i.zero, i.size, i.bytes)) = some (some (.agg #[.int .i64 0, .int .i64 0, .string ⟨#[]⟩, .int .i64 0, .int .i64 0, .string ⟨#[]⟩, .slice none 0 0]), 7, 88) := by kernel_rfl
theorem info56 : (Ybad.prog.info? 56).map (fun i => (i.zero, i.size, i.bytes)) = some (some (.pointer none), 1, 8) := by kernel_rfl
theorem info103 : (Ybad.prog.info? 103).map (fun i => (i.zero, i.size, i.bytes)) = some (some .nilIface, 1, 16) := by kernel_rfl
theorem info50 : (Ybad.prog.info? 50).map (fun i => (i.zero, i.size, i.bytes)) = some (some (.slice none 0 0), 1, 24) := by kernel_rfl

/-- A type's row, laid behind the call. -/
theorem row43_new {wr w4 : World} {x : ByteArray} {v : Value} (hb : Below wr.heap.size wr w4) : Below wr.heap.size wr (w4.alloc (.cells #[.int .i64 0, .int .i64 0, .string x, v] 43)) ∧ (w4.alloc (.cells #[.int .i64 0, .int .i64 0, .string x, v] 43)).heap[w4.heap.size]? = some (.cells #[.int .i64 0, .int .i64 0, .string x, v] 43 (0, 0)) :=
  ⟨hb.alloc hb.size _, heap_alloc_newD _ _⟩

/-- A type's row, laid ahead of the call and filled behind it. -/
theorem row43_set {wr w4 : World} {x : ByteArray} {v : Value} {K : Nat} (hK : wr.heap.size = K) (hb : Below wr.heap.size wr w4) (hr : w4.heap[K]? = some (.cells #[.int .i64 0, .int .i64 0, .string ⟨#[]⟩, .slice none 0 0] 43 (0, 0))) :
    Below wr.heap.size wr ((((w4.setCell ⟨K, 0, none⟩ (.int .i64 0)).setCell ⟨K, 1, none⟩ (.int .i64 0)).setCell ⟨K, 2, none⟩ (.string x)).setCell ⟨K, 3, none⟩ v) ∧ ((((w4.setCell ⟨K, 0, none⟩ (.int .i64 0)).setCell ⟨K, 1, none⟩ (.int .i64 0)).setCell ⟨K, 2, none⟩ (.string x)).setCell ⟨K, 3, none⟩ v).heap[K]? = some (.cells #[.int .i64 0, .int .i64 0, .string x, v] 43 (0, 0)) := by
  have hle : wr.heap.size ≤ K := by omega
  refine ⟨(((hb.setCell hle _).setCell hle _).setCell hle _).setCell hle _, ?_⟩
  have q1 := setCell_row w4 K 0 _ 43 (.int .i64 0) hr
  have q2 := setCell_row _ K 1 _ 43 (.int .i64 0) q1
  have q3 := setCell_row _ K 2 _ 43 (.string x) q2
  rw [setCell_row _ K 3 _ 43 v q3]
  rfl

theorem owns_keeps {w w2 : World} {B n s : Nat} {e : TypeId} {v : Value} {xs : List Value} (h : w.ownsRow B e s v n xs) (hk : Keeps e w w2) : w2.ownsRow B e s v n xs := by
  obtain ⟨h1, h2 | ⟨g, cap, cur, rfl, hb, hg, rest⟩⟩ := h
  · exact ⟨h1, .inl h2⟩
  · exact ⟨h1, .inr ⟨g, cap, cur, rfl, hb, hk _ _ hg, rest⟩⟩

/-- A row that grew by an append: what stays. -/
structure Grown (T : Nat) (e : TypeId) (w w2 : World) : Prop where
  keeps : ∀ t, t ≠ e → Keeps t w w2
  size : w.heap.size ≤ w2.heap.size
  bel : ∀ B w0, B ≤ T → T ≤ w.heap.size → Below B w0 w → Below B w0 w2

theorem grewA {T : Nat} {e : TypeId} {s j : Nat} {w w2 : World} {v : Value} {xs : List Value} {o : Obj} (hown : w.ownsRow T e s v j xs) (hg : (w.alloc o).grownBy w2 v.ownBlock) : Grown T e w w2 := by
  have hsz : w.heap.size + 1 ≤ w2.heap.size := by have := hg.size; simpa using this
  refine ⟨fun t ht => (Keeps.alloc t w o).trans (Keeps.grown (hown.alloc o) ht.symm hg), by omega, fun B w0 hB hT hb => (hb.alloc (by omega) o).grown hg (by simp; omega) (fun k hk => ?_)⟩
  have := (hown.lt k hk).1
  omega

/-- What lives once the declaration is built. -/
structure Mid (S TN : Nat) (w wr : World) (b0 b1 : Nat) (t0 t1 t2 n0 n1 n2 : Int) (dn : ByteArray) (pv fv : Value) (ps : List (ByteArray × ByteArray)) (fs : List (ByteArray × List ByteArray)) : Prop where
  lw : LwSt S TN (TN + 1) (TN + 1 + 1) (TN + 1 + 1 + 1) w wr b0 b1 t0 t1 t2 n0 n1 n2 dn pv fv
  pr : ParRow wr pv ps
  fl : FldRow wr fv fs

section
variable {S TN : Nat} {w wr w2 : World} {b0 b1 : Nat} {t0 t1 t2 n0 n1 n2 : Int} {dn : ByteArray} {pv fv : Value} {ps : List (ByteArray × ByteArray)} {fs : List (ByteArray × List ByteArray)}
theorem Mid.keeps (h : Mid S TN w wr b0 b1 t0 t1 t2 n0 n1 n2 dn pv fv ps fs) (hk : ∀ t, t ∈ ([22, 30, 40, 43, 47, 49] : List TypeId) → Keeps t wr w2) (hb : Below S w w2) (hs : wr.heap.size ≤ w2.heap.size) : Mid S TN w w2 b0 b1 t0 t1 t2 n0 n1 n2 dn pv fv ps fs :=
  ⟨h.lw.move (hk 22 (by decide)) (hk 30 (by decide)) (hk 40 (by decide) _ _ h.lw.d) hb hs, h.pr.keeps (hk 47 (by decide)), h.fl.keeps (hk 43 (by decide)) (hk 49 (by decide))⟩
theorem Mid.below (h : Mid S TN w wr b0 b1 t0 t1 t2 n0 n1 n2 dn pv fv ps fs) (hb : Below wr.heap.size wr w2) : Mid S TN w w2 b0 b1 t0 t1 t2 n0 n1 n2 dn pv fv ps fs :=
  h.keeps (fun _ _ => Keeps.below hb) (h.lw.below hb).b hb.size
theorem Mid.grown {e : TypeId} (h : Mid S TN w wr b0 b1 t0 t1 t2 n0 n1 n2 dn pv fv ps fs) (hg : Grown (TN + 1 + 1 + 1) e wr w2) (he : ∀ t, t ∈ ([22, 30, 40, 43, 47, 49] : List TypeId) → t ≠ e) : Mid S TN w w2 b0 b1 t0 t1 t2 n0 n1 n2 dn pv fv ps fs :=
  h.keeps (fun t ht => hg.keeps t (he t ht)) (hg.bel S w (by have := h.lw.o1; have := h.lw.o2; omega) h.lw.o3 h.lw.b) hg.size
end

/-- The methods built so far. -/
def Decls (T : Nat) (w : World) (v : Value) (ms : List MD) : Prop :=
  ∃ Ms : List Nat, Ms.length = ms.length ∧ w.ownsRow T 56 1 v ms.length (Ms.map fun M => .pointer (some ⟨M, 0, none⟩)) ∧ ∀ q (h : q < Ms.length) (h' : q < ms.length), MethAt w Ms[q] ms[q]

theorem Decls.keeps {T : Nat} {w w2 : World} {v : Value} {ms : List MD} (h : Decls T w v ms) (hk : ∀ t, t ∈ ([43, 49, 58, 64, 56] : List TypeId) → Keeps t w w2) : Decls T w2 v ms := by
  obtain ⟨Ms, h1, h2, h3⟩ := h
  exact ⟨Ms, h1, owns_keeps h2 (hk 56 (by decide)), fun q a b => (h3 q a b).keeps fun t ht => hk t (by simp at ht ⊢; rcases ht with rfl | rfl | rfl | rfl <;> simp)⟩

theorem Decls.row {T : Nat} {w : World} {v : Value} {ms : List MD} (h : Decls T w v ms) : MethRow w v ms := by
  obtain ⟨Ms, h1, ⟨_, ⟨rfl, hn⟩ | ⟨g, cap, cur, rfl, _, hg, _, _, _, ht⟩⟩, h3⟩ := h
  · exact ⟨none, 0, by rw [hn], fun hp => by omega⟩
  · refine ⟨_, cap, rfl, fun _ => ⟨g, cur, rfl, hg, fun j hj => ?_⟩⟩
    refine ⟨Ms[j], take_cell ht ?_, h3 j (by omega) hj⟩
    rw [List.getElem?_map, List.getElem?_eq_getElem (by omega)]
    rfl

theorem Decls.nil (T : Nat) (w : World) : Decls T w (.slice none 0 0) [] := ⟨[], rfl, World.ownsRow_nil _ _ _ _, fun q h => by simp at h⟩

theorem decls_snoc {T M : Nat} {w : World} {nv : Value} {ms : List MD} {m : MD} {Ms : List Nat} (h1 : Ms.length = ms.length) (hown : w.ownsRow T 56 1 nv (ms.length + 1) ((Ms.map fun M => .pointer (some ⟨M, 0, none⟩)) ++ [.pointer (some ⟨M, 0, none⟩)])) (h3 : ∀ q (h : q < Ms.length) (h' : q < ms.length), MethAt w Ms[q] ms[q]) (hm : MethAt w M m) : Decls T w nv (ms ++ [m]) := by
  refine ⟨Ms ++ [M], by simp [h1], by simpa using hown, fun q a b => ?_⟩
  by_cases hq : q < Ms.length
  · rw [List.getElem_append_left hq, List.getElem_append_left (by omega)]
    exact h3 q hq (by omega)
  · have e : q = Ms.length := by simp at a; omega
    subst e
    rw [List.getElem_append_right (Nat.le_refl _), List.getElem_append_right (by omega)]
    simp only [Nat.sub_self, h1, List.getElem_cons_zero]
    exact hm

/-- The texts built so far. -/
theorem strs_row {T : Nat} {w : World} {v : Value} {ss : List ByteArray} (h : w.ownsRow T 9 1 v ss.length (ss.map Value.string)) : Scope w v ss := by
  obtain ⟨_, ⟨rfl, hn⟩ | ⟨g, cap, cur, rfl, _, hg, _, _, _, ht⟩⟩ := h
  · exact ⟨none, 0, by rw [hn], fun hp => by omega⟩
  · refine ⟨_, cap, rfl, fun _ => ⟨g, cur, rfl, hg, fun j hj => take_cell ht ?_⟩⟩
    rw [List.getElem?_map, List.getElem?_eq_getElem hj]
    rfl
end Go.Proofs.YbulkbmowDoor
