/-
  numbering.typeDecl at a struct.
-/
import Derived.Test.YbulkbmowDoorStr
namespace Go.Proofs.YbulkbmowDoor
open Go.RowKit Go

theorem assert31 (u : Value) (W : World) : (Instr.typeAssert (.iface 31 u) 103 31 true).run Ybad.prog W = .ok (.tuple #[u, .bool true]) W := by kernel_rfl

/-- A method of the declaration: its name's number, its parameters, its result. -/
structure MD where
  k : Nat
  fs : List (ByteArray × List ByteArray)
  rx : ByteArray

structure MD.Good (m : MD) : Prop where
  k : m.k < 3
  fs : ∀ q ∈ m.fs, TyGood [] q.1 q.2
  rx : TyGood [] m.rx []
  l : m.fs.length ≤ 300

def MD.text (t0 t1 t2 n0 n1 n2 : Int) (m : MD) : ByteArray := ⟨#[109]⟩ ++ num (tn3 n0 n1 n2 m.k) ++ ⟨#[45]⟩ ++ sigText t0 t1 t2 [] m.fs m.rx [] ++ ⟨#[61]⟩ ++ (⟨#[118]⟩ ++ num 0)

/-- The method lies at block M. -/
def MethAt (w : World) (M : Nat) (m : MD) : Prop :=
  ∃ pv rav V, w.heap[M]? = some (.cells (methCells (mnameOf m.k) pv m.rx rav V) 64 (0, 0)) ∧ w.heap[V]? = some (.cells #[.int .i64 0, .int .i64 0, .string ⟨#[]⟩] 58 (0, 0)) ∧ FldRow w pv m.fs ∧ TyArgs w rav []

def MethRow (w : World) (v : Value) (ms : List MD) : Prop :=
  ∃ a c, v = .slice a ms.length c ∧ (0 < ms.length → ∃ g cur, a = some ⟨g, 0, none⟩ ∧ w.heap[g]? = some (.cells cur 56 (0, 0)) ∧ ∀ j (h : j < ms.length), ∃ M, cur[j]? = some (.pointer (some ⟨M, 0, none⟩)) ∧ MethAt w M ms[j])

theorem MethAt.keeps {w w2 : World} {M : Nat} {m : MD} (h : MethAt w M m) (hk : ∀ t, t ∈ ([43, 49, 58, 64] : List TypeId) → Keeps t w w2) : MethAt w2 M m := by
  obtain ⟨pv, rav, V, h1, h2, h3, h4⟩ := h
  exact ⟨pv, rav, V, hk 64 (by decide) _ _ h1, hk 58 (by decide) _ _ h2, h3.keeps (hk 43 (by decide)) (hk 49 (by decide)), h4.keeps (hk 43 (by decide))⟩
theorem MethRow.keeps {w w2 : World} {v : Value} {ms : List MD} (h : MethRow w v ms) (hk : ∀ t, t ∈ ([43, 49, 58, 64, 56] : List TypeId) → Keeps t w w2) : MethRow w2 v ms := by
  obtain ⟨a, c, h1, h2⟩ := h
  refine ⟨a, c, h1, fun hp => ?_⟩
  obtain ⟨g, cur, h3, h4, h5⟩ := h2 hp
  refine ⟨g, cur, h3, hk 56 (by decide) _ _ h4, fun j hj => ?_⟩
  obtain ⟨M, h6, h7⟩ := h5 j hj
  exact ⟨M, h6, h7.keeps fun t ht => hk t (by simp at ht ⊢; rcases ht with rfl | rfl | rfl | rfl <;> simp)⟩

/-- The struct's declaration and its methods, as they lie. -/
structure DeclSt (w : World) (F TR D MS i tc : Nat) (dn : ByteArray) (pv fv dv : Value) (ps : List (ByteArray × ByteArray)) (fs : List (ByteArray × List ByteArray)) (mts : List MD) : Prop where
  f : w.heap[F]? = some (.cells #[.string ⟨#[]⟩, .int .i64 0, .int .i64 0, .slice (some ⟨TR, 0, none⟩) 3 tc, .slice none 0 0, .pointer none] 70 (0, 0))
  tr : ∃ cur, w.heap[TR]? = some (.cells cur 103 (0, 0)) ∧ cur[i]? = some (.iface 31 (.pointer (some ⟨D, 0, none⟩)))
  d : w.heap[D]? = some (.cells #[.int .i64 0, .int .i64 0, .string dn, pv, fv] 40 (0, 0))
  pr : ParRow w pv ps
  fl : FldRow w fv fs
  mr : ∃ cur, w.heap[MS]? = some (.cells cur 50 (0, 0)) ∧ cur[i]? = some dv
  me : MethRow w dv mts

theorem DeclSt.keeps {w w2 : World} {F TR D MS i tc : Nat} {dn : ByteArray} {pv fv dv : Value} {ps : List (ByteArray × ByteArray)} {fs : List (ByteArray × List ByteArray)} {mts : List MD} (h : DeclSt w F TR D MS i tc dn pv fv dv ps fs mts) (hk : ∀ t, t ≠ 5 → t ≠ 9 → t ≠ 101 → Keeps t w w2) : DeclSt w2 F TR D MS i tc dn pv fv dv ps fs mts := by
  obtain ⟨c1, h1, h2⟩ := h.tr
  obtain ⟨c2, h3, h4⟩ := h.mr
  refine ⟨hk 70 (by decide) (by decide) (by decide) _ _ h.f, ⟨c1, hk 103 (by decide) (by decide) (by decide) _ _ h1, h2⟩, hk 40 (by decide) (by decide) (by decide) _ _ h.d, h.pr.keeps (hk 47 (by decide) (by decide) (by decide)), h.fl.keeps (hk 43 (by decide) (by decide) (by decide)) (hk 49 (by decide) (by decide) (by decide)), ⟨c2, hk 50 (by decide) (by decide) (by decide) _ _ h3, h4⟩, h.me.keeps fun t ht => hk t ?_ ?_ ?_⟩
  all_goals (simp at ht; rcases ht with rfl | rfl | rfl | rfl | rfl <;> decide)

theorem Fr.keeps {B b : Nat} {acc : ByteArray} {w w' : World} (hf : Fr B b w w') (hb : Bd B b acc w) (t : TypeId) (h1 : t ≠ 5) (h2 : t ≠ 101) : Keeps t w w' := fun _ _ h => hf.row hb h h2 h1

/-- What the walk carries. -/
structure TdSt (L B b : Nat) (acc : ByteArray) (w : World) (p : NBlk) (t0 t1 t2 n0 n1 n2 : Int) (sv : Value) (names : List ByteArray) (R TR D MS i tc : Nat) (dn : ByteArray) (pv fv dv : Value) (ps : List (ByteArray × ByteArray)) (fs : List (ByteArray × List ByteArray)) (mts : List MD) : Prop where
  env : Env L B b acc w p t0 t1 t2 n0 n1 n2 (.slice (some ⟨MS, 0, none⟩) 3 3) sv names
  r : w.heap[R]? = some (Obj.cells #[Value.pointer (some { block := p.sh, off := 0 }), Value.slice (some { block := p.tb, off := 0 }) 3 3, Value.slice (some { block := p.nb, off := 0 }) 3 3] 75 (0, 0))
  dc : DeclSt w p.F TR D MS i tc dn pv fv dv ps fs mts

section
variable {L B b : Nat} {acc acc' : ByteArray} {w w' : World} {p : NBlk} {t0 t1 t2 n0 n1 n2 : Int} {sv sv' : Value} {names names' : List ByteArray} {R TR D MS i tc : Nat} {dn : ByteArray} {pv fv dv : Value} {ps : List (ByteArray × ByteArray)} {fs : List (ByteArray × List ByteArray)} {mts : List MD}
theorem TdSt.move (h : TdSt L B b acc w p t0 t1 t2 n0 n1 n2 sv names R TR D MS i tc dn pv fv dv ps fs mts) (he : Env L B b acc' w' p t0 t1 t2 n0 n1 n2 (.slice (some ⟨MS, 0, none⟩) 3 3) sv' names') (hk : ∀ t, t ≠ 5 → t ≠ 9 → t ≠ 101 → Keeps t w w') : TdSt L B b acc' w' p t0 t1 t2 n0 n1 n2 sv' names' R TR D MS i tc dn pv fv dv ps fs mts :=
  ⟨he, hk 75 (by decide) (by decide) (by decide) _ _ h.r, h.dc.keeps hk⟩
theorem TdSt.below (h : TdSt L B b acc w p t0 t1 t2 n0 n1 n2 sv names R TR D MS i tc dn pv fv dv ps fs mts) (hb : Below w.heap.size w w') : TdSt L B b acc w' p t0 t1 t2 n0 n1 n2 sv names R TR D MS i tc dn pv fv dv ps fs mts :=
  h.move (h.env.below hb) fun _ _ _ _ => Keeps.below hb
theorem TdSt.wrote (h : TdSt L B b acc w p t0 t1 t2 n0 n1 n2 sv names R TR D MS i tc dn pv fv dv ps fs mts) (hf : Fr B b w w') (hbd : Bd B b acc' w') : TdSt L B b acc' w' p t0 t1 t2 n0 n1 n2 sv names R TR D MS i tc dn pv fv dv ps fs mts :=
  h.move (h.env.wrote hf hbd) fun t h1 _ h3 => hf.keeps h.env.bd t h1 h3
theorem TdSt.scope (h : TdSt L B b acc w p t0 t1 t2 n0 n1 n2 sv names R TR D MS i tc dn pv fv dv ps fs mts) (hs : Scope w sv' names') : TdSt L B b acc w p t0 t1 t2 n0 n1 n2 sv' names' R TR D MS i tc dn pv fv dv ps fs mts :=
  ⟨⟨h.env.num, hs, h.env.bd, h.env.tab, h.env.hL, h.env.hB, h.env.f0, h.env.f1, h.env.f2⟩, h.r, h.dc⟩
end

/-- Each text with a bar ahead of it. -/
def bars (l : List ByteArray) : ByteArray := l.foldl (fun s a => s ++ (⟨#[124]⟩ ++ a)) ByteArray.empty
theorem bars_snoc (l : List ByteArray) (a : ByteArray) : bars (l ++ [a]) = bars l ++ (⟨#[124]⟩ ++ a) := by
  unfold bars
  rw [List.foldl_append]
  rfl
theorem bars_size (l : List ByteArray) (m : Nat) (h : ∀ a ∈ l, a.size ≤ m) : ∀ n, (bars (l.take n)).size ≤ n * (m + 1) := by
  intro n
  induction n with
  | zero => simp [bars]
  | succ n ih =>
    by_cases hl : n < l.length
    · rw [List.take_succ_eq_append_getElem hl, bars_snoc, ByteArray.size_append, ByteArray.size_append, Nat.add_mul]
      have := h _ (List.getElem_mem hl)
      have hs : (⟨#[124]⟩ : ByteArray).size = 1 := rfl
      omega
    · rw [List.take_of_length_le (by omega), Nat.add_mul]
      rw [List.take_of_length_le (by omega)] at ih
      omega

def structText (t0 t1 t2 n0 n1 n2 : Int) (ps : List (ByteArray × ByteArray)) (fs : List (ByteArray × List ByteArray)) (mts : List MD) : ByteArray :=
  ⟨#[83]⟩ ++ ⟨#[60]⟩ ++ semis (ps.map fun q => leaf t0 t1 t2 (ps.map (·.1)) q.2) ++ ⟨#[62]⟩ ++ ⟨#[123]⟩ ++ semis (fs.map fun q => tyText t0 t1 t2 (ps.map (·.1)) q.1 q.2) ++ ⟨#[125]⟩ ++ bars (sortB (mts.map fun m => m.text t0 t1 t2 n0 n1 n2))

theorem MD.text_size {t0 t1 t2 n0 n1 n2 : Int} (h0 : Fits t0) (h1 : Fits t1) (h2 : Fits t2) (g0 : Fits n0) (g1 : Fits n1) (g2 : Fits n2) (m : MD) (h : m.Good) : (m.text t0 t1 t2 n0 n1 n2).size ≤ 3100000 := by
  have e1 := sigText_size h0 h1 h2 [] (by simp) m.fs h.l (fun q hq => (h.fs q hq).2.2.2) m.rx [] (by simp)
  have e2 := num_size _ (fits_tn g0 g1 g2 m.k)
  have e3 := num_size 0 ⟨by omega, by omega⟩
  unfold MD.text
  simp only [ByteArray.size_append]
  have s1 : (⟨#[109]⟩ : ByteArray).size = 1 := rfl
  have s2 : (⟨#[45]⟩ : ByteArray).size = 1 := rfl
  have s3 : (⟨#[61]⟩ : ByteArray).size = 1 := rfl
  have s4 : (⟨#[118]⟩ : ByteArray).size = 1 := rfl
  omega
end Go.Proofs.YbulkbmowDoor
