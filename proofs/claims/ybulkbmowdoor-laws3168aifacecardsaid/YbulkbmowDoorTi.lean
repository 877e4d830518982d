/-
  numbering.typeDecl at an interface: words.
-/
import Derived.Test.YbulkbmowDoorSrt
import Derived.Test.YbulkbmowDoorSp
namespace Go.Proofs.YbulkbmowDoor
open Go.RowKit Go

theorem assert31_not (u : Value) (W : World) : (Instr.typeAssert (.iface 78 u) 103 31 true).run Ybad.prog W = .ok (.tuple #[.pointer none, .bool false]) W := by kernel_rfl
theorem assert78 (u : Value) (W : World) : (Instr.typeAssert (.iface 78 u) 103 78 true).run Ybad.prog W = .ok (.tuple #[u, .bool true]) W := by kernel_rfl

structure MD.GoodIn (names : List ByteArray) (m : MD) : Prop where
  k : m.k < 3
  fs : ∀ q ∈ m.fs, TyGood names q.1 q.2
  rx : TyGood names m.rx []
  l : m.fs.length ≤ 300

def MD.spec (t0 t1 t2 n0 n1 n2 : Int) (names : List ByteArray) (m : MD) : ByteArray := ⟨#[109]⟩ ++ num (tn3 n0 n1 n2 m.k) ++ sigText t0 t1 t2 names m.fs m.rx []

theorem MD.spec_size {t0 t1 t2 n0 n1 n2 : Int} (h0 : Fits t0) (h1 : Fits t1) (h2 : Fits t2) (g0 : Fits n0) (g1 : Fits n1) (g2 : Fits n2) (names : List ByteArray) (hn : names.length ≤ 100) (m : MD) (h : m.GoodIn names) : (m.spec t0 t1 t2 n0 n1 n2 names).size ≤ 3100000 := by
  have e1 := sigText_size h0 h1 h2 names hn m.fs h.l (fun q hq => (h.fs q hq).2.2.2) m.rx [] (by simp)
  have e2 := num_size _ (fits_tn g0 g1 g2 m.k)
  unfold MD.spec
  simp only [ByteArray.size_append]
  have s1 : (⟨#[109]⟩ : ByteArray).size = 1 := rfl
  omega

/-- The interface's methods, as they lie. -/
def SpecRow (w : World) (v : Value) (ms : List MD) : Prop :=
  ∃ a c, v = .slice a ms.length c ∧ (0 < ms.length → ∃ g cur, a = some ⟨g, 0, none⟩ ∧ w.heap[g]? = some (.cells cur 83 (0, 0)) ∧ ∀ j (h : j < ms.length), ∃ pv rav, (∀ i, i < 9 → cur[j * 9 + i]? = (specCells (mnameOf ms[j].k) pv ms[j].rx rav)[i]?) ∧ FldRow w pv ms[j].fs ∧ TyArgs w rav [])

/-- The interface's embedded types, as they lie. -/
def EmbRow (w : World) (v : Value) (es : List (ByteArray × List ByteArray)) : Prop :=
  ∃ a c, v = .slice a es.length c ∧ (0 < es.length → ∃ g cur, a = some ⟨g, 0, none⟩ ∧ w.heap[g]? = some (.cells cur 43 (0, 0)) ∧ ∀ j (h : j < es.length), cur[j * 4]? = some (.int .i64 0) ∧ cur[j * 4 + 1]? = some (.int .i64 0) ∧ cur[j * 4 + 2]? = some (.string es[j].1) ∧ ∃ av, cur[j * 4 + 3]? = some av ∧ TyArgs w av es[j].2)

theorem SpecRow.keeps {w w2 : World} {v : Value} {ms : List MD} (h : SpecRow w v ms) (hk : ∀ t, t ∈ ([43, 49, 83] : List TypeId) → Keeps t w w2) : SpecRow w2 v ms := by
  obtain ⟨a, c, h1, h2⟩ := h
  refine ⟨a, c, h1, fun hp => ?_⟩
  obtain ⟨g, cur, h3, h4, h5⟩ := h2 hp
  refine ⟨g, cur, h3, hk 83 (by decide) _ _ h4, fun j hj => ?_⟩
  obtain ⟨pv, rav, h6, h7, h8⟩ := h5 j hj
  exact ⟨pv, rav, h6, h7.keeps (hk 43 (by decide)) (hk 49 (by decide)), h8.keeps (hk 43 (by decide))⟩
theorem EmbRow.keeps {w w2 : World} {v : Value} {es : List (ByteArray × List ByteArray)} (h : EmbRow w v es) (hk : Keeps 43 w w2) : EmbRow w2 v es := by
  obtain ⟨a, c, h1, h2⟩ := h
  refine ⟨a, c, h1, fun hp => ?_⟩
  obtain ⟨g, cur, h3, h4, h5⟩ := h2 hp
  refine ⟨g, cur, h3, hk _ _ h4, fun j hj => ?_⟩
  obtain ⟨k0, k1, k2, av, k3, k4⟩ := h5 j hj
  exact ⟨k0, k1, k2, av, k3, k4.keeps hk⟩

/-- The interface's declaration, as it lies. -/
structure IDecl (w : World) (F TR D i tc : Nat) (dn : ByteArray) (pv mv ev : Value) (ps : List (ByteArray × ByteArray)) (ms : List MD) (es : List (ByteArray × List ByteArray)) : Prop where
  f : w.heap[F]? = some (.cells #[.string ⟨#[]⟩, .int .i64 0, .int .i64 0, .slice (some ⟨TR, 0, none⟩) 3 tc, .slice none 0 0, .pointer none] 70 (0, 0))
  tr : ∃ cur, w.heap[TR]? = some (.cells cur 103 (0, 0)) ∧ cur[i]? = some (.iface 78 (.pointer (some ⟨D, 0, none⟩)))
  d : w.heap[D]? = some (.cells #[.int .i64 0, .int .i64 0, .string dn, pv, mv, ev] 81 (0, 0))
  pr : ParRow w pv ps
  sp : SpecRow w mv ms
  em : EmbRow w ev es

theorem IDecl.keeps {w w2 : World} {F TR D i tc : Nat} {dn : ByteArray} {pv mv ev : Value} {ps : List (ByteArray × ByteArray)} {ms : List MD} {es : List (ByteArray × List ByteArray)} (h : IDecl w F TR D i tc dn pv mv ev ps ms es) (hk : ∀ t, t ≠ 5 → t ≠ 9 → t ≠ 101 → Keeps t w w2) : IDecl w2 F TR D i tc dn pv mv ev ps ms es := by
  obtain ⟨c1, h1, h2⟩ := h.tr
  refine ⟨hk 70 (by decide) (by decide) (by decide) _ _ h.f, ⟨c1, hk 103 (by decide) (by decide) (by decide) _ _ h1, h2⟩, hk 81 (by decide) (by decide) (by decide) _ _ h.d, h.pr.keeps (hk 47 (by decide) (by decide) (by decide)), h.sp.keeps fun t ht => hk t ?_ ?_ ?_, h.em.keeps (hk 43 (by decide) (by decide) (by decide))⟩
  all_goals (simp at ht; rcases ht with rfl | rfl | rfl <;> decide)

/-- What the walk carries. -/
structure TiSt (L B b : Nat) (acc : ByteArray) (w : World) (p : NBlk) (t0 t1 t2 n0 n1 n2 : Int) (msv sv : Value) (names : List ByteArray) (R TR D i tc : Nat) (dn : ByteArray) (pv mv ev : Value) (ps : List (ByteArray × ByteArray)) (ms : List MD) (es : List (ByteArray × List ByteArray)) : Prop where
  env : Env L B b acc w p t0 t1 t2 n0 n1 n2 msv sv names
  r : w.heap[R]? = some (Obj.cells #[Value.pointer (some { block := p.sh, off := 0 }), Value.slice (some { block := p.tb, off := 0 }) 3 3, Value.slice (some { block := p.nb, off := 0 }) 3 3] 75 (0, 0))
  dc : IDecl w p.F TR D i tc dn pv mv ev ps ms es

section
variable {L B b : Nat} {acc acc' : ByteArray} {w w' : World} {p : NBlk} {t0 t1 t2 n0 n1 n2 : Int} {msv sv sv' : Value} {names names' : List ByteArray} {R TR D i tc : Nat} {dn : ByteArray} {pv mv ev : Value} {ps : List (ByteArray × ByteArray)} {ms : List MD} {es : List (ByteArray × List ByteArray)}
theorem TiSt.move (h : TiSt L B b acc w p t0 t1 t2 n0 n1 n2 msv sv names R TR D i tc dn pv mv ev ps ms es) (he : Env L B b acc' w' p t0 t1 t2 n0 n1 n2 msv sv' names') (hk : ∀ t, t ≠ 5 → t ≠ 9 → t ≠ 101 → Keeps t w w') : TiSt L B b acc' w' p t0 t1 t2 n0 n1 n2 msv sv' names' R TR D i tc dn pv mv ev ps ms es :=
  ⟨he, hk 75 (by decide) (by decide) (by decide) _ _ h.r, h.dc.keeps hk⟩
theorem TiSt.below (h : TiSt L B b acc w p t0 t1 t2 n0 n1 n2 msv sv names R TR D i tc dn pv mv ev ps ms es) (hb : Below w.heap.size w w') : TiSt L B b acc w' p t0 t1 t2 n0 n1 n2 msv sv names R TR D i tc dn pv mv ev ps ms es :=
  h.move (h.env.below hb) fun _ _ _ _ => Keeps.below hb
theorem TiSt.wrote (h : TiSt L B b acc w p t0 t1 t2 n0 n1 n2 msv sv names R TR D i tc dn pv mv ev ps ms es) (hf : Fr B b w w') (hbd : Bd B b acc' w') : TiSt L B b acc' w' p t0 t1 t2 n0 n1 n2 msv sv names R TR D i tc dn pv mv ev ps ms es :=
  h.move (h.env.wrote hf hbd) fun t h1 _ h3 => hf.keeps h.env.bd t h1 h3
theorem TiSt.scope (h : TiSt L B b acc w p t0 t1 t2 n0 n1 n2 msv sv names R TR D i tc dn pv mv ev ps ms es) (hs : Scope w sv' names') : TiSt L B b acc w p t0 t1 t2 n0 n1 n2 msv sv' names' R TR D i tc dn pv mv ev ps ms es :=
  ⟨⟨h.env.num, hs, h.env.bd, h.env.tab, h.env.hL, h.env.hB, h.env.f0, h.env.f1, h.env.f2⟩, h.r, h.dc⟩
theorem TiSt.got (h : TiSt L B b acc w p t0 t1 t2 n0 n1 n2 msv sv names R TR D i tc dn pv mv ev ps ms es) : Got L w p t0 t1 t2 n0 n1 n2 msv sv names :=
  ⟨h.env.num, h.env.sc, h.env.tab, Nat.le_trans h.env.hL h.env.hB, h.env.f0, h.env.f1, h.env.f2⟩
end

def ifaceText (t0 t1 t2 n0 n1 n2 : Int) (ps : List (ByteArray × ByteArray)) (ms : List MD) (es : List (ByteArray × List ByteArray)) : ByteArray :=
  ⟨#[73]⟩ ++ ⟨#[60]⟩ ++ semis (ps.map fun q => leaf t0 t1 t2 (ps.map (·.1)) q.2) ++ ⟨#[62]⟩ ++ (⟨#[123]⟩ ++ joinB (sortB (ms.map fun m => m.spec t0 t1 t2 n0 n1 n2 (ps.map (·.1)))) ++ ⟨#[47]⟩ ++ joinB (sortB (es.map fun q => tyText t0 t1 t2 (ps.map (·.1)) q.1 q.2)) ++ ⟨#[125]⟩)

/-- A row of strings that was made, seen as slices.Values wants it. -/
theorem strs_of {n : Nat} {W : World} {M : Nat} {cur : Array Value} {zs : List ByteArray} (hn : zs.length = n) (hg : W.heap[M]? = some (.cells cur 9 (0, 0))) (h : ∀ q (hq : q < zs.length), cur[q]? = some (.string zs[q])) : Strs W.heap.size W (.slice (some ⟨M, 0, none⟩) n n) zs := by
  refine .inr ⟨M, 0, n, by rw [hn], (Array.getElem?_eq_some_iff.1 hg).1, fun j hj => ?_⟩
  rw [Nat.zero_add, cell_row hg (h j hj), List.getElem?_eq_getElem hj]
  rfl
end Go.Proofs.YbulkbmowDoor
