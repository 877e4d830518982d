/-
  numbering.typeText, numbering.spec.
-/
import Derived.Test.YbulkbmowDoorStr
namespace Go.Proofs.YbulkbmowDoor
open Go.RowKit Go

theorem three_below (w : World) (o1 o2 o3 : Obj) : Below w.heap.size w (((w.alloc o1).alloc o2).alloc o3) := (two_below w o1 o2).alloc (by simp; omega) _
theorem three_rows (w : World) (o1 o2 o3 : Obj) : (((w.alloc o1).alloc o2).alloc o3).heap[w.heap.size]? = some o1 ∧ (((w.alloc o1).alloc o2).alloc o3).heap[w.heap.size + 1]? = some o2 ∧ (((w.alloc o1).alloc o2).alloc o3).heap[w.heap.size + 1 + 1]? = some o3 := by
  refine ⟨?_, ?_, ?_⟩
  all_goals repeat (first | (refine Eq.trans (congrArg _ ?_) (heap_alloc_newD _ _); simp; done) | (rw [heap_alloc_oldD _ _ (by simp <;> omega)]))

theorem bd_new3 (w : World) (o1 o2 : Obj) : Bd (w.heap.size + 1 + 1) (w.heap.size + 1 + 1) ByteArray.empty (((w.alloc o1).alloc o2).alloc (.cells #[.pointer none, .slice none 0 0] 101)) := by
  have h := bd_new ((w.alloc o1).alloc o2)
  simpa using h

theorem Env.rebuild {L B b B' b' : Nat} {acc : ByteArray} {w w' : World} {p : NBlk} {t0 t1 t2 n0 n1 n2 : Int} {ms sv : Value} {names : List ByteArray} (h : Env L B b acc w p t0 t1 t2 n0 n1 n2 ms sv names) (hb : Below w.heap.size w w') (hbd : Bd B' b' ByteArray.empty w') (hB : B ≤ B') (hB' : B' ≤ w'.heap.size) : Env L B' b' ByteArray.empty w' p t0 t1 t2 n0 n1 n2 ms sv names :=
  ⟨h.num.below hb, h.sc.below hb, hbd, h.tab.below hb (by have := h.hL; have := h.hB; omega), by have := h.hL; omega, hB', h.f0, h.f1, h.f2⟩

/-- What typeText and spec need. -/
structure Got (L : Nat) (w : World) (p : NBlk) (t0 t1 t2 n0 n1 n2 : Int) (ms sv : Value) (names : List ByteArray) : Prop where
  num : NumOK w p t0 t1 t2 n0 n1 n2 ms
  sc : Scope w sv names
  tab : Tab L w
  hL : L ≤ w.heap.size
  f0 : Fits t0
  f1 : Fits t1
  f2 : Fits t2

theorem Got.env {L B b : Nat} {w w' : World} {p : NBlk} {t0 t1 t2 n0 n1 n2 : Int} {ms sv : Value} {names : List ByteArray} (h : Got L w p t0 t1 t2 n0 n1 n2 ms sv names) (hb : Below w.heap.size w w') (hbd : Bd B b ByteArray.empty w') (hB : w.heap.size ≤ B) (hB' : B ≤ w'.heap.size) : Env L B b ByteArray.empty w' p t0 t1 t2 n0 n1 n2 ms sv names :=
  ⟨h.num.below hb, h.sc.below hb, hbd, h.tab.below hb h.hL, by have := h.hL; omega, hB', h.f0, h.f1, h.f2⟩

set_option maxRecDepth 100000 in
set_option maxHeartbeats 1000000 in
theorem typeText_any (L : Nat) (w : World) (p : NBlk) (t0 t1 t2 n0 n1 n2 : Int) (ms sv av : Value) (names args : List ByteArray) (x : ByteArray) (h : Got L w p t0 t1 t2 n0 n1 n2 ms sv names) (hargs : TyArgs w av args) (hg : TyGood names x args) (hn : names.length ≤ 100) :
    Calls Ybad.prog 23 #[p.val, tyV x av, sv] w fun e w' => e = .returned (.string (tyText t0 t1 t2 names x args)) ∧ Below w.heap.size w w' := by
  obtain ⟨aa, ac, rfl, _⟩ := id hargs
  have hbx := three_below w (Obj.cells #[Value.pointer (some { block := p.sh, off := 0 }), Value.slice (some { block := p.tb, off := 0 }) 3 3, Value.slice (some { block := p.nb, off := 0 }) 3 3] 75) (Obj.cells #[.int .i64 0, .int .i64 0, .string x, .slice aa args.length ac] 43) (Obj.cells #[.pointer none, .slice none 0 0] 101)
  have HE : Hid (Env L (w.heap.size + 1 + 1) (w.heap.size + 1 + 1) ByteArray.empty _ p t0 t1 t2 n0 n1 n2 ms sv names) := h.env hbx (bd_new3 w _ _) (by omega) (by simp)
  have HTA : Hid (TyArgs _ (.slice aa args.length ac) args) := hargs.below hbx
  have HB : Hid (Below w.heap.size w _) := hbx
  clear h hargs hbx
  unfold NBlk.val tyV
  go_enter Ybad.func23, Ybad.ntmps23
  go_wp2_with fail
  generalize ((w.alloc (Obj.cells #[Value.pointer (some { block := p.sh, off := 0 }), Value.slice (some { block := p.tb, off := 0 }) 3 3, Value.slice (some { block := p.nb, off := 0 }) 3 3] 75)).alloc (Obj.cells #[.int .i64 0, .int .i64 0, .string x, .slice aa args.length ac] 43)).alloc (Obj.cells #[.pointer none, .slice none 0 0] 101) = X at *
  generalize hR : w.heap.size = R at *
  refine (typ_any L (R + 1 + 1) (R + 1 + 1) ByteArray.empty x X p t0 t1 t2 n0 n1 n2 ms sv (.slice aa args.length ac) names args HTA.out hg HE.out hn (by have he : ByteArray.empty.size = 0 := rfl; omega)).mono ?_
  rintro e w1 ⟨rfl, hbd1, hf1⟩
  have hE1 := HE.out.wrote hf1 hbd1
  go_wp2_with fail
  refine (string_any (R + 1 + 1) (R + 1 + 1) _ w1 hE1.bd hE1.hB).mono ?_
  rintro e w2 ⟨rfl, _, hf2⟩
  go_wp2_with fail
  go_ret
  exact ⟨by simp, by rw [hR]; exact (HB.out.trans (hf1.bel.mono (by omega))).trans (hf2.bel.mono (by omega))⟩

/-- A spec's cells. -/
def specCells (x : ByteArray) (pv : Value) (rx : ByteArray) (rav : Value) : Array Value :=
  #[.int .i64 0, .int .i64 0, .string x, .slice none 0 0, pv, .int .i64 0, .int .i64 0, .string rx, rav]

structure SpSt (L B b : Nat) (acc : ByteArray) (w : World) (p : NBlk) (t0 t1 t2 n0 n1 n2 : Int) (ms sv pv : Value) (names : List ByteArray) (fs : List (ByteArray × List ByteArray)) (x rx : ByteArray) (rav : Value) (rargs : List ByteArray) (R : Nat) : Prop where
  env : Env L B b acc w p t0 t1 t2 n0 n1 n2 ms sv names
  fl : FldRow w pv fs
  ra : TyArgs w rav rargs
  r : w.heap[R]? = some (Obj.cells #[Value.pointer (some { block := p.sh, off := 0 }), Value.slice (some { block := p.tb, off := 0 }) 3 3, Value.slice (some { block := p.nb, off := 0 }) 3 3] 75 (0, 0))
  s : w.heap[R + 1]? = some (.cells (specCells x pv rx rav) 83 (0, 0))

section
variable {L B b : Nat} {acc acc' : ByteArray} {w w' : World} {p : NBlk} {t0 t1 t2 n0 n1 n2 : Int} {ms sv pv : Value} {names : List ByteArray} {fs : List (ByteArray × List ByteArray)} {x rx : ByteArray} {rav : Value} {rargs : List ByteArray} {R : Nat}
theorem SpSt.below (h : SpSt L B b acc w p t0 t1 t2 n0 n1 n2 ms sv pv names fs x rx rav rargs R) (hb : Below w.heap.size w w') : SpSt L B b acc w' p t0 t1 t2 n0 n1 n2 ms sv pv names fs x rx rav rargs R :=
  ⟨h.env.below hb, h.fl.below hb, h.ra.below hb, Keeps.below hb _ _ h.r, Keeps.below hb _ _ h.s⟩
theorem SpSt.wrote (h : SpSt L B b acc w p t0 t1 t2 n0 n1 n2 ms sv pv names fs x rx rav rargs R) (hf : Fr B b w w') (hbd : Bd B b acc' w') : SpSt L B b acc' w' p t0 t1 t2 n0 n1 n2 ms sv pv names fs x rx rav rargs R :=
  ⟨h.env.wrote hf hbd, h.fl.fr h.env.bd hf, h.ra.fr h.env.bd hf, hf.row h.env.bd h.r (by decide) (by decide), hf.row h.env.bd h.s (by decide) (by decide)⟩
end

theorem fiveS {L B b : Nat} {acc : ByteArray} {w : World} {p : NBlk} {t0 t1 t2 n0 n1 n2 : Int} {ms sv pv : Value} {names : List ByteArray} {fs : List (ByteArray × List ByteArray)} {x rx : ByteArray} {rav : Value} {rargs : List ByteArray} {R k : Nat} (hk : k < 3) (h : SpSt L B b acc w p t0 t1 t2 n0 n1 n2 ms sv pv names fs x rx rav rargs R) :
    w.cell? ⟨R, 0, none⟩ = some (.pointer (some ⟨p.sh, 0, none⟩)) ∧ w.cell? ⟨R, 2, none⟩ = some (.slice (some ⟨p.nb, 0, none⟩) 3 3) ∧ w.cell? ⟨R + 1, 2, none⟩ = some (.string x) ∧ w.cell? ⟨p.sh, 3, none⟩ = some (.map (some p.mn)) ∧ w.cell? ⟨p.nb, k, none⟩ = some (.int .i64 (tn3 n0 n1 n2 k)) := by
  refine ⟨cell_row (j := 0) h.r rfl, cell_row (j := 2) h.r rfl, cell_row (j := 2) h.s rfl, cell_row (j := 3) h.env.num.sh rfl, ?_⟩
  match k, hk with
  | 0, _ => exact cell_row (j := 0) h.env.num.nb rfl
  | 1, _ => exact cell_row (j := 1) h.env.num.nb rfl
  | 2, _ => exact cell_row (j := 2) h.env.num.nb rfl

set_option maxRecDepth 100000 in
set_option maxHeartbeats 1000000 in
theorem spec_any (L k : Nat) (w : World) (p : NBlk) (t0 t1 t2 n0 n1 n2 : Int) (ms sv pv rav : Value) (names : List ByteArray) (fs : List (ByteArray × List ByteArray)) (rx : ByteArray) (rargs : List ByteArray) (hk : k < 3) (h : Got L w p t0 t1 t2 n0 n1 n2 ms sv names) (g0 : Fits n0) (g1 : Fits n1) (g2 : Fits n2) (hcat : Cat names) (hfl : FldRow w pv fs) (hra : TyArgs w rav rargs) (hg : ∀ q ∈ fs, TyGood names q.1 q.2) (hgr : TyGood names rx rargs) (hn : names.length ≤ 100) (hl : fs.length ≤ 300) :
    Calls Ybad.prog 22 #[p.val, .agg (specCells (mnameOf k) pv rx rav), sv] w fun e w' => e = .returned (.string (⟨#[109]⟩ ++ num (tn3 n0 n1 n2 k) ++ sigText t0 t1 t2 names fs rx rargs)) ∧ Below w.heap.size w w' := by
  obtain ⟨pa, pc, rfl, _⟩ := id hfl
  obtain ⟨ra, rc, rfl, _⟩ := id hra
  have hbx := three_below w (Obj.cells #[Value.pointer (some { block := p.sh, off := 0 }), Value.slice (some { block := p.tb, off := 0 }) 3 3, Value.slice (some { block := p.nb, off := 0 }) 3 3] 75) (Obj.cells (specCells (mnameOf k) (.slice pa fs.length pc) rx (.slice ra rargs.length rc)) 83) (Obj.cells #[.pointer none, .slice none 0 0] 101)
  obtain ⟨hr1, hr2, _⟩ := three_rows w (Obj.cells #[Value.pointer (some { block := p.sh, off := 0 }), Value.slice (some { block := p.tb, off := 0 }) 3 3, Value.slice (some { block := p.nb, off := 0 }) 3 3] 75) (Obj.cells (specCells (mnameOf k) (.slice pa fs.length pc) rx (.slice ra rargs.length rc)) 83) (Obj.cells #[.pointer none, .slice none 0 0] 101)
  have hS0 : SpSt L (w.heap.size + 1 + 1) (w.heap.size + 1 + 1) ByteArray.empty _ p t0 t1 t2 n0 n1 n2 ms sv (.slice pa fs.length pc) names fs (mnameOf k) rx (.slice ra rargs.length rc) rargs w.heap.size := ⟨h.env hbx (bd_new3 w _ _) (by omega) (by simp), hfl.below hbx, hra.below hbx, hr1, hr2⟩
  have HS1 : Hid (SpSt L (w.heap.size + 1 + 1) (w.heap.size + 1 + 1) ByteArray.empty _ p t0 t1 t2 n0 n1 n2 ms sv (.slice pa fs.length pc) names fs (mnameOf k) rx (.slice ra rargs.length rc) rargs w.heap.size) := hS0
  have HB1 : Hid (Below w.heap.size w _) := hbx
  have hfn := fits_tn g0 g1 g2 k
  unfold NBlk.val
  unfold specCells at *
  clear hbx hr1 hr2 hS0 h hfl hra
  go_enter Ybad.func22, Ybad.ntmps22
  go_wp2_with fail
  generalize ((w.alloc (Obj.cells #[Value.pointer (some { block := p.sh, off := 0 }), Value.slice (some { block := p.tb, off := 0 }) 3 3, Value.slice (some { block := p.nb, off := 0 }) 3 3] 75)).alloc (Obj.cells #[.int .i64 0, .int .i64 0, .string (mnameOf k), .slice none 0 0, .slice pa fs.length pc, .int .i64 0, .int .i64 0, .string rx, .slice ra rargs.length rc] 83)).alloc (Obj.cells #[.pointer none, .slice none 0 0] 101) = w0 at *
  generalize hR : w.heap.size = R at *
  obtain ⟨q0, q1, q2, q3, q4⟩ := fiveS hk HS1.out
  have hNum := HS1.out.env.num
  have hlk : ∀ n, (Instr.lookup 95 (.map (some p.mn)) (.string (mnameOf k)) false).run Ybad.prog (w0.drewN n) = .ok (.int .i64 k) (w0.drewN n) := fun n => look_m (w0.drewN n) p t0 t1 t2 n0 n1 n2 ms k hk ⟨hNum.sh, hNum.pg, hNum.mt, hNum.mn, hNum.tb, hNum.nb⟩
  have hlk1 : (Instr.lookup 95 (.map (some p.mn)) (.string (mnameOf k)) false).run Ybad.prog w0.drew = .ok (.int .i64 k) w0.drew := hlk 1
  have hnz := num_size (tn3 n0 n1 n2 k) hfn
  have HI : Hid (∀ W, Below w0.heap.size w0 W → Calls Ybad.prog 13 #[.int .i64 (tn3 n0 n1 n2 k)] W fun e w1 => e = .returned (.string (num (tn3 n0 n1 n2 k))) ∧ Below w0.heap.size w0 w1 ∧ (w1.cell? ⟨R, 0, none⟩ = some (.pointer (some ⟨p.sh, 0, none⟩)) ∧ w1.cell? ⟨R, 2, none⟩ = some (.slice (some ⟨p.nb, 0, none⟩) 3 3) ∧ w1.cell? ⟨R + 1, 2, none⟩ = some (.string (mnameOf k)) ∧ w1.cell? ⟨p.sh, 3, none⟩ = some (.map (some p.mn)) ∧ w1.cell? ⟨p.nb, k, none⟩ = some (.int .i64 (tn3 n0 n1 n2 k)))) := fun W hW => by
    have hE := HS1.out.below hW
    refine (itoa_any L _ hfn W hE.env.tab).mono ?_
    rintro e w1 ⟨rfl, hb1⟩
    have hb := hW.trans (hb1.mono hW.size)
    exact ⟨rfl, hb, fiveS hk (HS1.out.below hb)⟩
  have HW : Hid (∀ w1, Below w0.heap.size w0 w1 → Calls Ybad.prog 18 #[.pointer (some ⟨R + 1 + 1, 0, none⟩), .string (⟨#[109]⟩ ++ num (tn3 n0 n1 n2 k))] w1 fun e w2 => e = .returned (.tuple #[.int .i64 (⟨#[109]⟩ ++ num (tn3 n0 n1 n2 k)).size, .nilIface]) ∧ SpSt L (R + 1 + 1) (R + 1 + 1) (ByteArray.empty ++ (⟨#[109]⟩ ++ num (tn3 n0 n1 n2 k))) w2 p t0 t1 t2 n0 n1 n2 ms sv (.slice pa fs.length pc) names fs (mnameOf k) rx (.slice ra rargs.length rc) rargs R ∧ Below R w w2 ∧ (w2.cell? ⟨R, 0, none⟩ = some (.pointer (some ⟨p.sh, 0, none⟩)) ∧ w2.cell? ⟨R, 2, none⟩ = some (.slice (some ⟨p.nb, 0, none⟩) 3 3) ∧ w2.cell? ⟨R + 1, 2, none⟩ = some (.string (mnameOf k)) ∧ w2.cell? ⟨p.sh, 3, none⟩ = some (.map (some p.mn)) ∧ w2.cell? ⟨p.nb, k, none⟩ = some (.int .i64 (tn3 n0 n1 n2 k)))) := fun w1 hb => by
    have hE := HS1.out.below hb
    refine (write_any (R + 1 + 1) (R + 1 + 1) ByteArray.empty _ w1 hE.env.bd (by rw [ByteArray.size_append]; have hs : (⟨#[109]⟩ : ByteArray).size = 1 := rfl; have he : ByteArray.empty.size = 0 := rfl; omega) hE.env.hB).mono ?_
    rintro e w2 ⟨rfl, hbd2, hf2⟩
    have hS2 := hE.wrote hf2 hbd2
    exact ⟨rfl, hS2, (HB1.out.trans (hb.mono (by have := HB1.out.size; omega))).trans (hf2.bel.mono (by omega)), fiveS hk hS2⟩
  have j0 : (0 : Int) ≤ (k : Int) := by omega
  have j1 : (k : Int) < 3 := by omega
  have hs1' : (⟨#[109]⟩ : ByteArray).size = 1 := rfl
  clear hNum
  generalize hnt : num (tn3 n0 n1 n2 k) = nt at *
  have HNT : Hid (num (tn3 n0 n1 n2 k) = nt) := hnt
  clear hnt
  generalize htv : tn3 n0 n1 n2 k = tv at *
  have HTV : Hid (tn3 n0 n1 n2 k = tv) := htv
  clear htv
  generalize mnameOf k = nk at *
  have hadd : ∀ W : World, (Op.stringOp .add ⟨#[109]⟩ nt).run Ybad.prog W = .ok (.string (⟨#[109]⟩ ++ nt)) W := fun W => run_string_add_sum W _ _ (by rw [hs1']; omega)
  have hcat1 : 1 + nt.size ≤ 9223372036854775807 := by omega
  go_region_held3 (fun w' => w'.cell? ⟨R, 0, none⟩ = some (.pointer (some ⟨p.sh, 0, none⟩)) ∧ w'.cell? ⟨R, 2, none⟩ = some (.slice (some ⟨p.nb, 0, none⟩) 3 3) ∧ w'.cell? ⟨R + 1, 2, none⟩ = some (.string nk) ∧ w'.cell? ⟨p.sh, 3, none⟩ = some (.map (some p.mn)) ∧ w'.cell? ⟨p.nb, k, none⟩ = some (.int .i64 tv)) (go_keep) ((first | (go_at_call 13; refine (HI.out _ ?_).mono ?_; (exact ⟨rfl, rfl, rfl, Nat.le_refl _, fun _ _ => rfl⟩); rintro e w1 ⟨rfl, hb1, u0, u1, u2, u3, u4⟩) | (go_at_call 18; refine (HW.out w1 ?_).mono ?_; (exact hb1); rintro e w2 ⟨rfl, hS2, hB2, y0, y1, y2, y3, y4⟩)))
  have HS2 : Hid (SpSt L (R + 1 + 1) (R + 1 + 1) (ByteArray.empty ++ (⟨#[109]⟩ ++ nt)) w2 p t0 t1 t2 n0 n1 n2 ms sv (.slice pa fs.length pc) names fs nk rx (.slice ra rargs.length rc) rargs R) := hS2
  have HB2 : Hid (Below R w w2) := hB2
  have hA2 : (ByteArray.empty ++ (⟨#[109]⟩ ++ nt)).size ≤ 22 := by
    rw [ByteArray.size_append, ByteArray.size_append, hs1']
    have he : ByteArray.empty.size = 0 := rfl
    omega
  have b0 := cell_row (j := 0) hS2.r rfl
  have b1 := cell_row (j := 1) hS2.r rfl
  have b2 := cell_row (j := 2) hS2.r rfl
  have d3 := cell_row (j := 3) hS2.s rfl
  have d4 := cell_row (j := 4) hS2.s rfl
  have d5 := cell_row (j := 5) hS2.s rfl
  have d6 := cell_row (j := 6) hS2.s rfl
  have d7 := cell_row (j := 7) hS2.s rfl
  have d8 := cell_row (j := 8) hS2.s rfl
  clear HI HW HS1 HB1 q0 q1 q2 q3 q4 u0 u1 u2 u3 u4 y0 y1 y2 y3 y4 hlk hlk1 hadd hcat1 hS2 hB2 hb1
  generalize hac : ByteArray.empty ++ (⟨#[109]⟩ ++ nt) = acc2 at *
  have HAC2 : Hid (ByteArray.empty ++ (⟨#[109]⟩ ++ nt) = acc2) := hac
  clear hac
  go_wp2_with fail
  refine (sig_any L (R + 1 + 1) (R + 1 + 1) acc2 w2 p t0 t1 t2 n0 n1 n2 ms sv (.slice pa fs.length pc) names fs rx (.slice ra rargs.length rc) rargs hcat HS2.out.fl HS2.out.ra hg hgr HS2.out.env hn hl (by omega)).mono ?_
  rintro e w4 ⟨s2, rfl, hsc4, hbd4, hf4⟩
  have hS4 := HS2.out.wrote hf4 hbd4
  have hB4 := HB2.out.trans (hf4.bel.mono (show R ≤ R + 1 + 1 by omega))
  clear HS2 HB2 b0 b1 b2 d3 d4 d5 d6 d7 d8
  go_wp2_with fail
  refine (string_any (R + 1 + 1) (R + 1 + 1) _ w4 hS4.env.bd hS4.env.hB).mono ?_
  rintro e w5 ⟨rfl, _, hf5⟩
  go_wp2_with fail
  go_ret
  refine ⟨?_, by rw [hR]; exact hB4.trans (hf5.bel.mono (by omega))⟩
  rw [← HAC2.out, ← HNT.out, HTV.out]
  simp [ByteArray.append_assoc]
end Go.Proofs.YbulkbmowDoor
