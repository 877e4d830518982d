/-
  zzs3168asig, walked.
-/
import Derived.Test.YbulkbmowDoorKp
namespace Go.Proofs.YbulkbmowDoor
open Go.RowKit Go

theorem info49 : (Ybad.prog.info? 49).map (fun i => (i.zero, i.size, i.bytes)) = some (some (.agg #[.int .i64 0, .int .i64 0, .string ⟨#[]⟩, .int .i64 0, .int .i64 0, .string ⟨#[]⟩, .slice none 0 0]), 7, 88) := by kernel_rfl

theorem five_below (w : World) (o1 o2 o3 o4 o5 : Obj) : Below w.heap.size w (((((w.alloc o1).alloc o2).alloc o3).alloc o4).alloc o5) := (((((Below.refl w.heap.size w).alloc (Nat.le_refl _) _).alloc (by simp) _).alloc (by simp; omega) _).alloc (by simp; omega) _).alloc (by simp; omega) _
theorem five_rows (w : World) (o1 o2 o3 o4 o5 : Obj) (S : Nat) (hS : w.heap.size = S) (X : World) (hX : ((((w.alloc o1).alloc o2).alloc o3).alloc o4).alloc o5 = X) : X.heap[S]? = some o1 ∧ X.heap[S + 1]? = some o2 ∧ X.heap[S + 1 + 1]? = some o3 ∧ X.heap[S + 1 + 1 + 1]? = some o4 ∧ X.heap[S + 1 + 1 + 1 + 1]? = some o5 ∧ X.heap.size = S + 1 + 1 + 1 + 1 + 1 := by
  subst hX hS
  refine ⟨?_, ?_, ?_, ?_, ?_, by simp⟩
  all_goals repeat (first | (refine Eq.trans (congrArg _ ?_) (heap_alloc_newD _ _); simp; done) | (rw [heap_alloc_oldD _ _ (by simp <;> omega)]))

/-- What lives in the loop over the parameters. -/
structure SgSt (S Q T : Nat) (w wr : World) (nm : Nat) (pv : Value) (rs : Nat) (mn : ByteArray) (t0 t1 t2 : Int) (v : Value) (l : List (ByteArray × Value)) (fs : List (ByteArray × List ByteArray)) : Prop where
  own : wr.ownsRow T 49 7 v l.length (l.flatMap fldCells)
  m : Match wr l fs
  q : wr.heap[Q]? = some (.cells #[.slice none 0 0, v, .int .i64 0, .int .i64 0, .string ⟨#[]⟩, .slice none 0 0] 53 (0, 0))
  s0 : wr.heap[S]? = some (.cells #[.int .u8 nm, pv, .int .u8 rs] 29 (0, 0))
  s1 : wr.heap[S + 1]? = some (.cells #[.int .i64 t0, .int .i64 t1, .int .i64 t2] 30 (0, 0))
  s3 : wr.heap[S + 1 + 1 + 1]? = some (.cells #[.int .i64 0, .int .i64 0, .string ⟨#[]⟩] 36 (0, 0))
  s4 : wr.heap[S + 1 + 1 + 1 + 1]? = some (.cells #[.slice none 0 0, .slice none 0 0, .int .i64 0, .int .i64 0, .string ⟨#[]⟩, .slice none 0 0] 53 (0, 0))
  s5 : wr.heap[S + 1 + 1 + 1 + 1 + 1]? = some (.cells #[.int .i64 0, .int .i64 0, .string mn] 36 (0, 0))
  b : Below S w wr
  o1 : S + 1 + 1 + 1 + 1 + 1 < Q
  o2 : Q < T
  o3 : T ≤ wr.heap.size

variable {S Q T n : Nat} {w wr w2 : World} {nm rs : Nat} {pv : Value} {mn : ByteArray} {t0 t1 t2 : Int} {v nv : Value} {l : List (ByteArray × Value)} {fs : List (ByteArray × List ByteArray)} {o : Obj}

theorem SgSt.below (h : SgSt S Q T w wr nm pv rs mn t0 t1 t2 v l fs) (hb : Below wr.heap.size wr w2) : SgSt S Q T w w2 nm pv rs mn t0 t1 t2 v l fs := by
  have h1 := h.o1
  have h2 := h.o2
  have h3 := h.o3
  refine ⟨h.own.kept (grown_none hb) ?_, h.m.keeps (Keeps.below hb), Keeps.below hb _ _ h.q, Keeps.below hb _ _ h.s0, Keeps.below hb _ _ h.s1, Keeps.below hb _ _ h.s3, Keeps.below hb _ _ h.s4, Keeps.below hb _ _ h.s5, h.b.trans (hb.mono (by omega)), h1, h2, by have := hb.size; omega⟩
  cases v.ownBlock with
  | none => exact .inl rfl
  | some g => exact .inr (by simp)

theorem SgSt.old (h : SgSt S Q T w wr nm pv rs mn t0 t1 t2 v l fs) (hg : (wr.alloc o).grownBy w2 v.ownBlock) {k : Nat} (hk : k < T) : w2.heap[k]? = wr.heap[k]? := by
  have h3 := h.o3
  rw [hg.block k (by simp; omega) (fun e => by have := (h.own.lt k e.symm).1; omega), heap_alloc_oldD _ _ (by omega)]

theorem SgSt.next (h : SgSt S Q T w wr nm pv rs mn t0 t1 t2 v l fs) (hg : (wr.alloc o).grownBy w2 v.ownBlock) (x : ByteArray) (av : Value) (args : List ByteArray) (ht : TyArgs wr av args) (hown : w2.ownsRow T 49 7 nv (l.length + 1) (l.flatMap fldCells ++ fldCells (x, av))) : SgSt S Q T w (w2.setCell ⟨Q, 1, none⟩ nv) nm pv rs mn t0 t1 t2 nv (l ++ [(x, av)]) (fs ++ [(x, args)]) := by
  have h1 := h.o1
  have h2 := h.o2
  have h3 := h.o3
  have hG := grew (i := 1) h.own h.q h2 h3 hg hown
  have hk := hG.keeps 43 (by decide) (by decide)
  refine ⟨by rw [List.length_append, flat_snoc]; exact hG.own, (h.m.keeps hk).snoc x av args (ht.keeps hk), by rw [hG.d]; rfl, hG.keeps 29 (by decide) (by decide) _ _ h.s0, hG.keeps 30 (by decide) (by decide) _ _ h.s1, hG.keeps 36 (by decide) (by decide) _ _ h.s3, ?_, hG.keeps 36 (by decide) (by decide) _ _ h.s5, hG.bel S w (by omega) (by omega) h.b, h1, h2, by have := hG.size; omega⟩
  rw [Below.heap_setCell _ _ _ _ (by show S + 1 + 1 + 1 + 1 ≠ Q; omega), h.old hg (by omega)]
  exact h.s4

/-- What lives at the end. -/
structure SgEnd (S Q : Nat) (w W : World) (mk tx : ByteArray) (pv rav : Value) (fs : List (ByteArray × List ByteArray)) : Prop where
  q : W.heap[Q]? = some (.cells #[.slice none 0 0, pv, .int .i64 0, .int .i64 0, .string tx, rav] 53 (0, 0))
  s3 : W.heap[S + 1 + 1 + 1]? = some (.cells #[.int .i64 0, .int .i64 0, .string ⟨#[]⟩] 36 (0, 0))
  s4 : W.heap[S + 1 + 1 + 1 + 1]? = some (.cells #[.slice none 0 0, .slice none 0 0, .int .i64 0, .int .i64 0, .string ⟨#[]⟩, .slice none 0 0] 53 (0, 0))
  s5 : W.heap[S + 1 + 1 + 1 + 1 + 1]? = some (.cells #[.int .i64 0, .int .i64 0, .string mk] 36 (0, 0))
  fl : FldRow W pv fs
  ta : TyArgs W rav []
  b : Below S w W

theorem SgSt.ending (h : SgSt S Q T w wr nm pv rs mn t0 t1 t2 v l fs) (tx : ByteArray) (rav : Value) (ht : TyArgs wr rav []) (o : Obj) : SgEnd S Q w (((((wr.setCell ⟨Q, 2, none⟩ (.int .i64 0)).setCell ⟨Q, 3, none⟩ (.int .i64 0)).setCell ⟨Q, 4, none⟩ (.string tx)).setCell ⟨Q, 5, none⟩ rav).alloc o) mn tx v rav fs := by
  have h1 := h.o1
  have h2 := h.o2
  have h3 := h.o3
  have hb : Below S w (((((wr.setCell ⟨Q, 2, none⟩ (.int .i64 0)).setCell ⟨Q, 3, none⟩ (.int .i64 0)).setCell ⟨Q, 4, none⟩ (.string tx)).setCell ⟨Q, 5, none⟩ rav).alloc o) :=
    ((((h.b.setCell (by show S ≤ Q; omega) _).setCell (by show S ≤ Q; omega) _).setCell (by show S ≤ Q; omega) _).setCell (by show S ≤ Q; omega) _).alloc (by simp only [World.size_setCell]; omega) o
  have q1 := setCell_row wr Q 2 _ 53 (.int .i64 0) h.q
  have q2 := setCell_row _ Q 3 _ 53 (.int .i64 0) q1
  have q3 := setCell_row _ Q 4 _ 53 (.string tx) q2
  have q4 := setCell_row _ Q 5 _ 53 rav q3
  have hk : ∀ t, t ≠ 53 → Keeps t wr (((((wr.setCell ⟨Q, 2, none⟩ (.int .i64 0)).setCell ⟨Q, 3, none⟩ (.int .i64 0)).setCell ⟨Q, 4, none⟩ (.string tx)).setCell ⟨Q, 5, none⟩ rav).alloc o) := fun t htt =>
    ((((Keeps.setCell h.q htt.symm _).trans (Keeps.setCell q1 htt.symm _)).trans (Keeps.setCell q2 htt.symm _)).trans (Keeps.setCell q3 htt.symm _)).trans (Keeps.alloc t _ o)
  refine ⟨Keeps.alloc 53 _ o _ _ q4, hk 36 (by decide) _ _ h.s3, ?_, hk 36 (by decide) _ _ h.s5, (fldRow_own h.own h.m).keeps (hk 43 (by decide)) (hk 49 (by decide)), ht.keeps (hk 43 (by decide)), hb⟩
  refine Keeps.alloc 53 _ o _ _ ?_
  have hne : S + 1 + 1 + 1 + 1 ≠ Q := by omega
  rw [Below.heap_setCell _ _ _ _ hne, Below.heap_setCell _ _ _ _ hne, Below.heap_setCell _ _ _ _ hne, Below.heap_setCell _ _ _ _ hne]
  exact h.s4

theorem FldRow.drew {w : World} {v : Value} {fs : List (ByteArray × List ByteArray)} (h : FldRow w v fs) : FldRow w.drew v fs := h
theorem TyArgs.drew {w : World} {v : Value} {args : List ByteArray} (h : TyArgs w v args) : TyArgs w.drew v args := h

/-- Block D is a row of type e. -/
def Typed (w : World) (D : Nat) (e : TypeId) : Prop := ∃ c, w.heap[D]? = some (Obj.cells c e (0, 0))
theorem Typed.set {w : World} {D : Nat} {e : TypeId} (h : Typed w D e) (D' i : Nat) (v : Value) : Typed (w.setCell ⟨D', i, none⟩ v) D e := by
  obtain ⟨c, hc⟩ := h
  by_cases hd : D = D'
  · subst hd
    exact ⟨_, setCell_row w D i c e v hc⟩
  · exact ⟨c, by rw [Below.heap_setCell _ _ _ _ hd]; exact hc⟩
theorem Typed.keeps {w : World} {D : Nat} {e t : TypeId} (h : Typed w D e) (hne : e ≠ t) (i : Nat) (v : Value) : Keeps t w (w.setCell ⟨D, i, none⟩ v) := by
  obtain ⟨c, hc⟩ := h
  exact Keeps.setCell hc hne v

theorem SgEnd.done {S Q : Nat} {w W : World} {mk tx : ByteArray} {pv rav : Value} {fs : List (ByteArray × List ByteArray)} (h : SgEnd S Q w W mk tx pv rav fs) (x0 x1 x2 x3 x4 x5 x6 x7 x8 : Value) :
    FldRow (((((((((W.setCell ⟨S + 1 + 1 + 1, 0, none⟩ x0).setCell ⟨S + 1 + 1 + 1, 1, none⟩ x1).setCell ⟨S + 1 + 1 + 1, 2, none⟩ x2).setCell ⟨S + 1 + 1 + 1 + 1, 0, none⟩ x3).setCell ⟨S + 1 + 1 + 1 + 1, 1, none⟩ x4).setCell ⟨S + 1 + 1 + 1 + 1, 2, none⟩ x5).setCell ⟨S + 1 + 1 + 1 + 1, 3, none⟩ x6).setCell ⟨S + 1 + 1 + 1 + 1, 4, none⟩ x7).setCell ⟨S + 1 + 1 + 1 + 1, 5, none⟩ x8) pv fs ∧
    TyArgs (((((((((W.setCell ⟨S + 1 + 1 + 1, 0, none⟩ x0).setCell ⟨S + 1 + 1 + 1, 1, none⟩ x1).setCell ⟨S + 1 + 1 + 1, 2, none⟩ x2).setCell ⟨S + 1 + 1 + 1 + 1, 0, none⟩ x3).setCell ⟨S + 1 + 1 + 1 + 1, 1, none⟩ x4).setCell ⟨S + 1 + 1 + 1 + 1, 2, none⟩ x5).setCell ⟨S + 1 + 1 + 1 + 1, 3, none⟩ x6).setCell ⟨S + 1 + 1 + 1 + 1, 4, none⟩ x7).setCell ⟨S + 1 + 1 + 1 + 1, 5, none⟩ x8) rav [] ∧
    Below S w (((((((((W.setCell ⟨S + 1 + 1 + 1, 0, none⟩ x0).setCell ⟨S + 1 + 1 + 1, 1, none⟩ x1).setCell ⟨S + 1 + 1 + 1, 2, none⟩ x2).setCell ⟨S + 1 + 1 + 1 + 1, 0, none⟩ x3).setCell ⟨S + 1 + 1 + 1 + 1, 1, none⟩ x4).setCell ⟨S + 1 + 1 + 1 + 1, 2, none⟩ x5).setCell ⟨S + 1 + 1 + 1 + 1, 3, none⟩ x6).setCell ⟨S + 1 + 1 + 1 + 1, 4, none⟩ x7).setCell ⟨S + 1 + 1 + 1 + 1, 5, none⟩ x8) := by
  have a0 : Typed W (S + 1 + 1 + 1) 36 := ⟨_, h.s3⟩
  have b0 : Typed W (S + 1 + 1 + 1 + 1) 53 := ⟨_, h.s4⟩
  have a1 := a0.set (S + 1 + 1 + 1) 0 x0
  have a2 := a1.set (S + 1 + 1 + 1) 1 x1
  have b3 := ((b0.set (S + 1 + 1 + 1) 0 x0).set (S + 1 + 1 + 1) 1 x1).set (S + 1 + 1 + 1) 2 x2
  have b4 := b3.set (S + 1 + 1 + 1 + 1) 0 x3
  have b5 := b4.set (S + 1 + 1 + 1 + 1) 1 x4
  have b6 := b5.set (S + 1 + 1 + 1 + 1) 2 x5
  have b7 := b6.set (S + 1 + 1 + 1 + 1) 3 x6
  have b8 := b7.set (S + 1 + 1 + 1 + 1) 4 x7
  have hk : ∀ t, 36 ≠ t → 53 ≠ t → Keeps t W _ := fun t h1 h2 => ((((((((a0.keeps h1 0 x0).trans (a1.keeps h1 1 x1)).trans (a2.keeps h1 2 x2)).trans (b3.keeps h2 0 x3)).trans (b4.keeps h2 1 x4)).trans (b5.keeps h2 2 x5)).trans (b6.keeps h2 3 x6)).trans (b7.keeps h2 4 x7)).trans (b8.keeps h2 5 x8)
  have e1 : S ≤ S + 1 + 1 + 1 := by omega
  have e2 : S ≤ S + 1 + 1 + 1 + 1 := by omega
  exact ⟨h.fl.keeps (hk 43 (by decide) (by decide)) (hk 49 (by decide) (by decide)), h.ta.keeps (hk 43 (by decide) (by decide)), ((((((((h.b.setCell e1 _).setCell e1 _).setCell e1 _).setCell e2 _).setCell e2 _).setCell e2 _).setCell e2 _).setCell e2 _).setCell e2 _⟩

set_option maxRecDepth 100000 in
set_option maxHeartbeats 1000000 in
theorem sg_any (L nm rs np : Nat) (pv : Value) (ps : List Nat) (w : World) (t0 t1 t2 n0 n1 n2 : Int) (hnm : nm < 256) (hrs : rs < 256) (hn : np ≤ 2) (ht : Tab L w) (hL : L ≤ w.heap.size) (f0 : Fits t0) (f1 : Fits t1) (f2 : Fits t2) (g0 : Fits n0) (g1 : Fits n1) (g2 : Fits n2) (hps : U8Row w pv ps) (hpl : ps.length ≤ 300) :
    Calls Ybad.prog 8 #[.agg #[.int .u8 nm, pv, .int .u8 rs], .int .i64 np, .agg #[.int .i64 t0, .int .i64 t1, .int .i64 t2], .agg #[.int .i64 n0, .int .i64 n1, .int .i64 n2]] w fun e w' => ∃ pv' rav', e = .returned (.tuple #[.agg #[.int .i64 0, .int .i64 0, .string (mnameOf (nm % 3))], sigV pv' (tyName rs np) rav', .string (⟨#[109]⟩ ++ num (tn3 n0 n1 n2 (nm % 3))), .string (sigText t0 t1 t2 (scopeOf np) (ps.map fun a => (tyName a np, [])) (tyName rs np) [])]) ∧ FldRow w' pv' (ps.map fun a => (tyName a np, [])) ∧ TyArgs w' rav' [] ∧ Below w.heap.size w w' := by
  obtain ⟨i49, hi49, hz49, hs49, hb49⟩ := info_parts info49
  obtain ⟨pa, pc, rfl, h256, hrow⟩ := hps
  have HROW : Hid (0 < ps.length → ∃ g o, pa = some ⟨g, o, none⟩ ∧ ∀ j (h : j < ps.length), w.cell? ⟨g, o + j, none⟩ = some (.int .u8 ps[j])) := hrow
  clear hrow
  obtain ⟨k, hk3⟩ : ∃ k, nm % 3 = k := ⟨_, rfl⟩
  have hk : k < 3 := by omega
  have h3 : (nm : Int) % 3 = (k : Int) := by omega
  rw [hk3]
  have hkf := fits_tn g0 g1 g2 k
  have hnz := num_size (tn3 n0 n1 n2 k) hkf
  have j0 : (0 : Int) ≤ (k : Int) := by omega
  have j1 : (k : Int) < 3 := by omega
  have hscl : (scopeOf np).length ≤ 100 := by unfold scopeOf; simp; omega
  have hbx := five_below w (Obj.cells #[.int .u8 nm, .slice pa ps.length pc, .int .u8 rs] 29) (Obj.cells #[.int .i64 t0, .int .i64 t1, .int .i64 t2] 30) (Obj.cells #[.int .i64 n0, .int .i64 n1, .int .i64 n2] 30) (Obj.cells #[.int .i64 0, .int .i64 0, .string ⟨#[]⟩] 36) (Obj.cells #[.slice none 0 0, .slice none 0 0, .int .i64 0, .int .i64 0, .string ⟨#[]⟩, .slice none 0 0] 53)
  obtain ⟨r0, r1, r2, r3, r4, rz⟩ := five_rows w (Obj.cells #[.int .u8 nm, .slice pa ps.length pc, .int .u8 rs] 29) (Obj.cells #[.int .i64 t0, .int .i64 t1, .int .i64 t2] 30) (Obj.cells #[.int .i64 n0, .int .i64 n1, .int .i64 n2] 30) (Obj.cells #[.int .i64 0, .int .i64 0, .string ⟨#[]⟩] 36) (Obj.cells #[.slice none 0 0, .slice none 0 0, .int .i64 0, .int .i64 0, .string ⟨#[]⟩, .slice none 0 0] 53) w.heap.size rfl _ rfl
  have HB0 : Hid (Below w.heap.size w _) := hbx
  have HR0 : Hid (_ = some (Obj.cells #[.int .u8 nm, .slice pa ps.length pc, .int .u8 rs] 29)) := r0
  have HR1 : Hid (_ = some (Obj.cells #[.int .i64 t0, .int .i64 t1, .int .i64 t2] 30)) := r1
  have HR2 : Hid (_ = some (Obj.cells #[.int .i64 n0, .int .i64 n1, .int .i64 n2] 30)) := r2
  have HR3 : Hid (_ = some (Obj.cells #[.int .i64 0, .int .i64 0, .string ⟨#[]⟩] 36)) := r3
  have HR4 : Hid (_ = some (Obj.cells #[.slice none 0 0, .slice none 0 0, .int .i64 0, .int .i64 0, .string ⟨#[]⟩, .slice none 0 0] 53)) := r4
  have HRZ : Hid (_ = w.heap.size + 1 + 1 + 1 + 1 + 1) := rz
  clear hbx r0 r1 r2 r3 r4 rz
  go_enter Ybad.func8, Ybad.ntmps8
  go_wp2_with fail
  generalize ((((w.alloc (Obj.cells #[.int .u8 nm, .slice pa ps.length pc, .int .u8 rs] 29)).alloc (Obj.cells #[.int .i64 t0, .int .i64 t1, .int .i64 t2] 30)).alloc (Obj.cells #[.int .i64 n0, .int .i64 n1, .int .i64 n2] 30)).alloc (Obj.cells #[.int .i64 0, .int .i64 0, .string ⟨#[]⟩] 36)).alloc (Obj.cells #[.slice none 0 0, .slice none 0 0, .int .i64 0, .int .i64 0, .string ⟨#[]⟩, .slice none 0 0] 53) = X at *
  generalize hS : w.heap.size = S at *
  refine (mname_any k hk X).mono ?_
  rintro e w0 ⟨rfl, rfl⟩
  have x2 := tn_cell hk HR2.out
  have hRX : S + 1 + 1 < X.heap.size := (Array.getElem?_eq_some_iff.1 HR2.out).1
  go_wp2_with fail
  rw [HRZ.out]
  have hbo := (Below.refl _ X).alloc (Nat.le_refl _) (Obj.cells #[.int .i64 0, .int .i64 0, .string (mnameOf k)] 36)
  have hr5 := heap_alloc_newD X (Obj.cells #[.int .i64 0, .int .i64 0, .string (mnameOf k)] 36)
  refine (itoa_any L (tn3 n0 n1 n2 k) hkf _ ((ht.below HB0.out hL).below hbo (by have := HB0.out.size; omega))).mono ?_
  rintro e w1 ⟨rfl, hb1⟩
  have hbX : Below X.heap.size X w1 := hbo.trans (hb1.mono (by have := hbo.size; omega))
  have h5 := Keeps.below hb1 _ _ hr5
  have h0 := Keeps.below hbX _ _ HR0.out
  have h1 := Keeps.below hbX _ _ HR1.out
  have h3' := Keeps.below hbX _ _ HR3.out
  have h4 := Keeps.below hbX _ _ HR4.out
  have hbw : Below S w w1 := HB0.out.trans (hbX.mono (by have := HRZ.out; omega))
  have hz1 : S + 1 + 1 + 1 + 1 + 1 < w1.heap.size := by rw [← HRZ.out]; exact (Array.getElem?_eq_some_iff.1 h5).1
  rw [HRZ.out] at h5
  have hbo2 := (Below.refl _ w1).alloc (Nat.le_refl _) (Obj.cells #[.slice none 0 0, .slice none 0 0, .int .i64 0, .int .i64 0, .string ⟨#[]⟩, .slice none 0 0] 53)
  have HSG : Hid (SgSt S w1.heap.size (w1.alloc (Obj.cells #[.slice none 0 0, .slice none 0 0, .int .i64 0, .int .i64 0, .string ⟨#[]⟩, .slice none 0 0] 53)).heap.size w (w1.alloc (Obj.cells #[.slice none 0 0, .slice none 0 0, .int .i64 0, .int .i64 0, .string ⟨#[]⟩, .slice none 0 0] 53)) nm (.slice pa ps.length pc) rs (mnameOf k) t0 t1 t2 (.slice none 0 0) [] []) :=
    ⟨World.ownsRow_nil _ _ _ _, Match.nil _, heap_alloc_newD _ _, Keeps.below hbo2 _ _ h0, Keeps.below hbo2 _ _ h1, Keeps.below hbo2 _ _ h3', Keeps.below hbo2 _ _ h4, Keeps.below hbo2 _ _ h5, hbw.trans (hbo2.mono (by omega)), hz1, by simp, Nat.le_refl _⟩
  have a1 := cell_row (j := 1) h0 rfl
  have hs1 : (⟨#[109]⟩ : ByteArray).size = 1 := rfl
  have hS1 : S < w1.heap.size := by omega
  clear hbo hr5 hb1 hbX h5 h0 h1 h3' h4 x2 HR0 HR1 HR2 HR3 HR4 HB0 hbo2 hbw
  generalize hnt : num (tn3 n0 n1 n2 k) = nt at *
  have HNT : Hid (num (tn3 n0 n1 n2 k) = nt) := hnt
  clear hnt
  generalize hmk : mnameOf k = mk at *
  go_wp2_with fail
  generalize hQ : w1.heap.size = Q at *
  generalize w1.alloc (Obj.cells #[.slice none 0 0, .slice none 0 0, .int .i64 0, .int .i64 0, .string ⟨#[]⟩, .slice none 0 0] 53) = W1 at *
  generalize hT : W1.heap.size = T at *
  go_loopw [16, 38] (fun tx i wr => ∃ j : Nat, j ≤ ps.length ∧ i = .int .i64 j ∧ tx = .string (⟨#[60, 62, 40]⟩ ++ semis ((ps.map fun a => leaf t0 t1 t2 (scopeOf np) (tyName a np)).take j)) ∧ ∃ v l, l.length = j ∧ SgSt S Q T w wr nm (.slice pa ps.length pc) rs mk t0 t1 t2 v l ((ps.map fun a => (tyName a np, [])).take j)) (fun _ i _ => ps.length - (intOf i).toNat)
  case atStart => exact ⟨0, Nat.zero_le _, rfl, by simp [semis], _, [], rfl, by simpa using HSG.out⟩
  case round =>
    obtain ⟨j, hj, rfl, rfl, v, l, hlj, hsg⟩ := hrel
    clear HSG a1
    have hssz := semis_size (ps.map fun a => leaf t0 t1 t2 (scopeOf np) (tyName a np)) 22 (fun a ha => by
      rw [List.mem_map] at ha
      obtain ⟨q, _, rfl⟩ := ha
      exact leaf_size f0 f1 f2 (scopeOf np) hscl _) j
    have hs3 : (⟨#[60, 62, 40]⟩ : ByteArray).size = 3 := rfl
    have hasz : (⟨#[60, 62, 40]⟩ ++ semis ((ps.map fun a => leaf t0 t1 t2 (scopeOf np) (tyName a np)).take j)).size ≤ 10000 := by rw [ByteArray.size_append]; omega
    have b0 := cell_row (j := 0) hsg.s1 rfl
    have b1 := cell_row (j := 1) hsg.s1 rfl
    have b2 := cell_row (j := 2) hsg.s1 rfl
    have o1 := hsg.o1
    have o2 := hsg.o2
    have o3 := hsg.o3
    have HSGJ : Hid (SgSt S Q T w wr nm (.slice pa ps.length pc) rs mk t0 t1 t2 v l ((ps.map fun a => (tyName a np, [])).take j)) := hsg
    by_cases hlt : j < ps.length
    · obtain ⟨g, o, rfl, hcell⟩ := HROW.out (by omega)
      have cj : wr.cell? ⟨g, o + j, none⟩ = some (.int .u8 ps[j]) := (hsg.b.cell (p := ⟨g, o + j, none⟩) (by rw [← hS]; exact World.block_lt_of_cell? w _ (hcell j hlt))).trans (hcell j hlt)
      have ha256 := h256 _ (List.getElem_mem hlt)
      have HSN : Hid (semis ((ps.map fun a => leaf t0 t1 t2 (scopeOf np) (tyName a np)).take (j + 1)) = semis ((ps.map fun a => leaf t0 t1 t2 (scopeOf np) (tyName a np)).take j) ++ leaf t0 t1 t2 (scopeOf np) (tyName ps[j] np) ++ ⟨#[59]⟩) := by
        show _ = _
        rw [List.take_succ_eq_append_getElem (by simpa using hlt), semis_snoc]
        simp
      have HFL : Hid ((ps.map fun a => (tyName a np, ([] : List ByteArray))).take (j + 1) = (ps.map fun a => (tyName a np, [])).take j ++ [(tyName ps[j] np, [])]) := by
        show _ = _
        rw [List.take_succ_eq_append_getElem (by simpa using hlt)]
        simp
      have hlz := leaf_size f0 f1 f2 (scopeOf np) hscl (tyName ps[j] np)
      have hdr : drawn t0 t1 t2 ps[j] np [] = leaf t0 t1 t2 (scopeOf np) (tyName ps[j] np) := by unfold drawn tyText; rw [tyArgs_nil, if_pos rfl]
      have hTb : Tab L wr := ht.below hsg.b hL
      have hcl := ty_any L ps[j] np (.slice none 0 0) [] wr t0 t1 t2 ha256 hn hTb (by omega) f0 f1 f2 ⟨none, 0, rfl, fun _ h => by simp at h, fun h => by simp at h⟩ (by simp)
      rw [tyArgs_nil, hdr] at hcl
      clear hsg hdr hcell hTb
      generalize (ps.map fun a => (tyName a np, ([] : List ByteArray))).take j = fsj at *
      generalize semis ((ps.map fun a => leaf t0 t1 t2 (scopeOf np) (tyName a np)).take j) = sj at *
      generalize leaf t0 t1 t2 (scopeOf np) (tyName ps[j] np) = lf at *
      generalize tyName ps[j] np = tx at *
      generalize ps[j] = pj at *
      have HCL : Hid (Calls Ybad.prog 6 _ wr _) := hcl
      clear hcl
      go_wp2_with fail
      refine HCL.out.mono ?_
      rintro e w4 ⟨av, rfl, hta, hni, hb4⟩
      clear hni
      clear HCL
      have hsg4 := HSGJ.out.below hb4
      clear HSGJ b0 b1 b2 cj
      obtain ⟨va, vc, hav, _⟩ := id hta
      rw [List.length_nil] at hav
      subst hav
      unfold tyV
      have hsg5 := hsg4.below ((Below.refl _ w4).alloc (Nat.le_refl _) (Obj.cells #[.int .i64 0, .int .i64 0, .string tx, .slice va 0 vc] 43))
      have hta5 := hta.below ((Below.refl _ w4).alloc (Nat.le_refl _) (Obj.cells #[.int .i64 0, .int .i64 0, .string tx, .slice va 0 vc] 43))
      have q1 := cell_row (j := 1) hsg4.q rfl
      have qf : ∀ j, w4.frozen? ⟨Q, j, none⟩ = false := fun j => by simp [World.frozen?, hsg4.q]
      have hQ4 : Q < w4.heap.size := by have := hsg4.o3; omega
      have hT4 : T ≤ w4.heap.size := hsg4.o3
      have HSG5 : Hid (SgSt S Q T w _ nm _ rs mk t0 t1 t2 v l fsj) := hsg5
      have HTA5 : Hid (TyArgs _ (.slice va 0 vc) []) := hta5
      clear hsg4 hsg5 hta hta5
      have q3 : l.length + 1 ≤ maxLen := by unfold maxLen; omega
      have q4 : (l.length + 1) * 88 ≤ 140737488355328 := by omega
      go_wp2_with (at_builtin; refine wpList_append_lies _ rfl _ _ 38 rfl T 49 i49 _ 7 88 Ybad.underlying38 hi49 hz49 hs49 hb49 rfl (by decide) _ l.length _ rfl (HSG5.out.own.alloc _) _ 1 1 (fldCells (tx, .slice va 0 vc)) rfl rfl ?c1 ?c2 (by decide) q3 q4 ?c5 _ rfl ?_)
      case c1 => exact World.news_of_block (cs := #[.int .i64 0, .int .i64 0, .string ⟨#[]⟩, .int .i64 0, .int .i64 0, .string tx, .slice va 0 vc]) (two_rows w4 _ _).2
      case c2 =>
        intro u hu
        simp [fldCells] at hu
        rcases hu with rfl | rfl | rfl | rfl | rfl <;> rfl
      case c5 => simp; omega
      intro g5 cap5 w5 hown5 hgrow5 hat5 hlt5
      have hq5 := (HSG5.out.old hgrow5 o2).trans HSG5.out.q
      have x15 := cell_row (j := 1) hq5 rfl
      have xf5 : ∀ j, w5.frozen? ⟨Q, j, none⟩ = false := fun j => by simp [World.frozen?, hq5]
      have hsg6 := HSG5.out.next hgrow5 tx (.slice va 0 vc) [] HTA5.out (by rw [hlj]; exact hown5)
      have HSG6 : Hid (SgSt S Q T w _ nm _ rs mk t0 t1 t2 _ _ _) := hsg6
      have hs59 : (⟨#[59]⟩ : ByteArray).size = 1 := rfl
      have hsum : (lf ++ ⟨#[59]⟩).size ≤ 23 := by rw [ByteArray.size_append]; omega
      clear hsg6 HSG5 HTA5
      go_wp2_with fail
      go_roundw
      case rel => exact ⟨j + 1, by omega, by go_num, by rw [HSN.out]; simp [ByteArray.append_assoc], _, l ++ [(tx, .slice va 0 vc)], by simp [hlj], by rw [HFL.out]; exact HSG6.out⟩
      case measure => simp [intOf]; omega
    · obtain rfl : j = ps.length := by omega
      have e1 : (ps.map fun a => leaf t0 t1 t2 (scopeOf np) (tyName a np)).take ps.length = ps.map fun a => leaf t0 t1 t2 (scopeOf np) (tyName a np) := List.take_of_length_le (by simp)
      have e2 : (ps.map fun a => (tyName a np, ([] : List ByteArray))).take ps.length = ps.map fun a => (tyName a np, []) := List.take_of_length_le (by simp)
      rw [e1] at hasz
      rw [e2] at HSGJ hsg
      have hTb : Tab L wr := ht.below hsg.b hL
      have hdr : drawn t0 t1 t2 rs np [] = leaf t0 t1 t2 (scopeOf np) (tyName rs np) := by unfold drawn tyText; rw [tyArgs_nil, if_pos rfl]
      have hcl := ty_any L rs np (.slice none 0 0) [] wr t0 t1 t2 hrs hn hTb (by omega) f0 f1 f2 ⟨none, 0, rfl, fun _ h => by simp at h, fun h => by simp at h⟩ (by simp)
      rw [tyArgs_nil, hdr] at hcl
      have HCL : Hid (Calls Ybad.prog 6 _ wr _) := hcl
      have c2 := cell_row (j := 2) hsg.s0 rfl
      have hlz := leaf_size f0 f1 f2 (scopeOf np) hscl (tyName rs np)
      have HTX : Hid (sigText t0 t1 t2 (scopeOf np) (ps.map fun a => (tyName a np, [])) (tyName rs np) [] = ⟨#[60, 62, 40]⟩ ++ semis (ps.map fun a => leaf t0 t1 t2 (scopeOf np) (tyName a np)) ++ (⟨#[41]⟩ ++ leaf t0 t1 t2 (scopeOf np) (tyName rs np))) := by
        show _ = _
        unfold sigText tyText
        rw [List.map_map]
        have e3 : (⟨#[60]⟩ ++ ⟨#[62]⟩ ++ ⟨#[40]⟩ : ByteArray) = ⟨#[60, 62, 40]⟩ := rfl
        rw [e3]
        simp [Function.comp_def, ByteArray.append_assoc]
      clear hcl hdr hTb hsg
      generalize leaf t0 t1 t2 (scopeOf np) (tyName rs np) = lf at *
      rw [e1]
      clear e1 e2
      generalize semis (ps.map fun a => leaf t0 t1 t2 (scopeOf np) (tyName a np)) = sj at *
      generalize htx : tyName rs np = tx at *
      have HTXN : Hid (tyName rs np = tx) := htx
      clear htx
      generalize hfsj : (ps.map fun a => (tyName a np, ([] : List ByteArray))) = fsj at *
      have HFSJ : Hid ((ps.map fun a => (tyName a np, ([] : List ByteArray))) = fsj) := hfsj
      clear hfsj
      go_wp2_with fail
      refine HCL.out.mono ?_
      rintro e w4 ⟨av, rfl, hta, hni, hb4⟩
      clear hni
      clear HCL
      have hsg4 := HSGJ.out.below hb4
      clear HSGJ b0 b1 b2 c2
      obtain ⟨va, vc, hav, _⟩ := id hta
      rw [List.length_nil] at hav
      subst hav
      unfold tyV
      obtain ⟨fa, fc, rfl, _⟩ := fldRow_own hsg4.own hsg4.m
      have q0 := cell_row (j := 0) hsg4.q rfl
      have q1 := cell_row (j := 1) hsg4.q rfl
      have q2 := cell_row (j := 2) hsg4.q rfl
      have q3 := cell_row (j := 3) hsg4.q rfl
      have q4 := cell_row (j := 4) hsg4.q rfl
      have q5 := cell_row (j := 5) hsg4.q rfl
      have qf : ∀ j, w4.frozen? ⟨Q, j, none⟩ = false := fun j => by simp [World.frozen?, hsg4.q]
      have hQ4 : Q < w4.heap.size := by have := hsg4.o3; omega
      have HE : Hid (SgEnd S Q w _ mk tx _ _ fsj) := hsg4.ending tx (.slice va 0 vc) hta (Obj.cells #[.int .i64 0, .int .i64 0, .string tx, .slice va 0 vc] 43)
      clear hsg4 hta
      have hs41 : (⟨#[41]⟩ : ByteArray).size = 1 := rfl
      have hsum : (⟨#[41]⟩ ++ lf).size ≤ 23 := by rw [ByteArray.size_append]; omega
      go_wp2_with fail
      generalize ((((w4.setCell ⟨Q, 2, none⟩ (.int .i64 0)).setCell ⟨Q, 3, none⟩ (.int .i64 0)).setCell ⟨Q, 4, none⟩ (.string tx)).setCell ⟨Q, 5, none⟩ (.slice va 0 vc)).alloc (Obj.cells #[.int .i64 0, .int .i64 0, .string tx, .slice va 0 vc] 43) = W at *
      have y0 := cell_row (j := 0) HE.out.q rfl
      have y1 := cell_row (j := 1) HE.out.q rfl
      have y2 := cell_row (j := 2) HE.out.q rfl
      have y3 := cell_row (j := 3) HE.out.q rfl
      have y4 := cell_row (j := 4) HE.out.q rfl
      have y5 := cell_row (j := 5) HE.out.q rfl
      have a0 := cell_row (j := 0) HE.out.s3 rfl
      have a1 := cell_row (j := 1) HE.out.s3 rfl
      have a2 := cell_row (j := 2) HE.out.s3 rfl
      have af : ∀ j, W.frozen? ⟨S + 1 + 1 + 1, j, none⟩ = false := fun j => by simp [World.frozen?, HE.out.s3]
      have d0 := cell_row (j := 0) HE.out.s4 rfl
      have d1 := cell_row (j := 1) HE.out.s4 rfl
      have d2 := cell_row (j := 2) HE.out.s4 rfl
      have d3 := cell_row (j := 3) HE.out.s4 rfl
      have d4 := cell_row (j := 4) HE.out.s4 rfl
      have d5 := cell_row (j := 5) HE.out.s4 rfl
      have df : ∀ j, W.frozen? ⟨S + 1 + 1 + 1 + 1, j, none⟩ = false := fun j => by simp [World.frozen?, HE.out.s4]
      have c0 := cell_row (j := 0) HE.out.s5 rfl
      have c1 := cell_row (j := 1) HE.out.s5 rfl
      have c2 := cell_row (j := 2) HE.out.s5 rfl
      have m1 : S + 1 + 1 + 1 ≠ Q := by omega
      have m2 : S + 1 + 1 + 1 + 1 ≠ Q := by omega
      have m4 := m1.symm
      have m5 := m2.symm
      clear q0 q1 q2 q3 q4 q5 qf
      go_region
      all_goals go_wp2_with fail
      all_goals
        refine bodyPost_ret (v := .tuple #[.agg #[.int .i64 0, .int .i64 0, .string mk], sigV (.slice fa fsj.length fc) tx (.slice va 0 vc), .string (⟨#[109]⟩ ++ nt), .string (⟨#[60, 62, 40]⟩ ++ sj ++ (⟨#[41]⟩ ++ lf))]) (by simp [results, Ybad.results8, go_sem, sigV, a0, a1, a2, d0, d1, d2, d3, d4, d5]) rfl ?_
        obtain ⟨z1, z2, z3⟩ := HE.out.done (.int .i64 0) (.int .i64 0) (.string mk) (.slice none 0 0) (.slice fa fsj.length fc) (.int .i64 0) (.int .i64 0) (.string tx) (.slice va 0 vc)
        rw [HTXN.out, HFSJ.out, HTX.out, HNT.out, hmk, hS]
        exact ⟨_, _, rfl, z1.drew, z2.drew, z3.drew⟩
end Go.Proofs.YbulkbmowDoor
