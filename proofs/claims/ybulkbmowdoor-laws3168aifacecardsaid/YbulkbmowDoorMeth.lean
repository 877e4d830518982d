/-
  numbering.method.
-/
import Derived.Test.YbulkbmowDoorExpr
namespace Go.Proofs.YbulkbmowDoor
open Go.RowKit Go

/-- A method's declaration as the law builds it. -/
def methCells (x : ByteArray) (pv : Value) (rx : ByteArray) (rav : Value) (V : Nat) : Array Value :=
  #[.int .i64 0, .int .i64 0, .string ⟨#[]⟩, .int .i64 0, .int .i64 0, .string ⟨#[]⟩, .slice none 0 0, .int .i64 0, .int .i64 0, .string x, .slice none 0 0, pv, .int .i64 0, .int .i64 0, .string rx, rav, .iface 57 (.pointer (some ⟨V, 0, none⟩))]

theorem look_m (w : World) (p : NBlk) (t0 t1 t2 n0 n1 n2 : Int) (ms : Value) (k : Nat) (hk : k < 3) (h : NumOK w p t0 t1 t2 n0 n1 n2 ms) : (Instr.lookup 95 (.map (some p.mn)) (.string (mnameOf k)) false).run Ybad.prog w = .ok (.int .i64 k) w := by
  match k, hk with
  | 0, _ => exact look_ents w p.mn 109 110 111 _ 0 0 h.mn rfl
  | 1, _ => exact look_ents w p.mn 109 110 111 _ 1 1 h.mn rfl
  | 2, _ => exact look_ents w p.mn 109 110 111 _ 2 2 h.mn rfl

/-- What the walk carries. -/
structure MethSt (L B b : Nat) (acc : ByteArray) (w : World) (p : NBlk) (t0 t1 t2 n0 n1 n2 : Int) (ms sv pv : Value) (fs : List (ByteArray × List ByteArray)) (x rx : ByteArray) (rav : Value) (rargs : List ByteArray) (R MD V : Nat) : Prop where
  env : Env L B b acc w p t0 t1 t2 n0 n1 n2 ms sv []
  fl : FldRow w pv fs
  ra : TyArgs w rav rargs
  r2 : w.heap[R]? = some (Obj.cells #[Value.pointer (some { block := p.sh, off := 0 }), Value.slice (some { block := p.tb, off := 0 }) 3 3, Value.slice (some { block := p.nb, off := 0 }) 3 3] 75 (0, 0))
  md : w.heap[MD]? = some (.cells (methCells x pv rx rav V) 64 (0, 0))
  v : w.heap[V]? = some (.cells #[.int .i64 0, .int .i64 0, .string ⟨#[]⟩] 58 (0, 0))

section
variable {L B b : Nat} {acc acc' : ByteArray} {w w' : World} {p : NBlk} {t0 t1 t2 n0 n1 n2 : Int} {ms sv sv' pv : Value} {fs : List (ByteArray × List ByteArray)} {x rx : ByteArray} {rav : Value} {rargs : List ByteArray} {R MD V : Nat}
theorem MethSt.below (h : MethSt L B b acc w p t0 t1 t2 n0 n1 n2 ms sv pv fs x rx rav rargs R MD V) (hb : Below w.heap.size w w') : MethSt L B b acc w' p t0 t1 t2 n0 n1 n2 ms sv pv fs x rx rav rargs R MD V :=
  ⟨h.env.below hb, h.fl.below hb, h.ra.below hb, (hb.block _ (Array.getElem?_eq_some_iff.1 h.r2).1).trans h.r2, (hb.block _ (Array.getElem?_eq_some_iff.1 h.md).1).trans h.md, (hb.block _ (Array.getElem?_eq_some_iff.1 h.v).1).trans h.v⟩
theorem MethSt.wrote (h : MethSt L B b acc w p t0 t1 t2 n0 n1 n2 ms sv pv fs x rx rav rargs R MD V) (hf : Fr B b w w') (hbd : Bd B b acc' w') : MethSt L B b acc' w' p t0 t1 t2 n0 n1 n2 ms sv pv fs x rx rav rargs R MD V :=
  ⟨h.env.wrote hf hbd, h.fl.fr h.env.bd hf, h.ra.fr h.env.bd hf, hf.row h.env.bd h.r2 (by decide) (by decide), hf.row h.env.bd h.md (by decide) (by decide), hf.row h.env.bd h.v (by decide) (by decide)⟩
theorem MethSt.scope (h : MethSt L B b acc w p t0 t1 t2 n0 n1 n2 ms sv pv fs x rx rav rargs R MD V) (hs : Scope w sv' []) : MethSt L B b acc w p t0 t1 t2 n0 n1 n2 ms sv' pv fs x rx rav rargs R MD V :=
  ⟨⟨h.env.num, hs, h.env.bd, h.env.tab, h.env.hL, h.env.hB, h.env.f0, h.env.f1, h.env.f2⟩, h.fl, h.ra, h.r2, h.md, h.v⟩
end

/-- The five cells of the drawn statement. -/
def FiveM (w : World) (R MD : Nat) (p : NBlk) (nk : ByteArray) (k : Nat) (tv : Int) : Prop :=
  w.cell? ⟨R, 0, none⟩ = some (.pointer (some ⟨p.sh, 0, none⟩)) ∧ w.cell? ⟨R, 2, none⟩ = some (.slice (some ⟨p.nb, 0, none⟩) 3 3) ∧ w.cell? ⟨MD, 9, none⟩ = some (.string nk) ∧ w.cell? ⟨p.sh, 3, none⟩ = some (.map (some p.mn)) ∧ w.cell? ⟨p.nb, k, none⟩ = some (.int .i64 tv)

theorem fiveM {L B b : Nat} {acc : ByteArray} {w : World} {p : NBlk} {t0 t1 t2 n0 n1 n2 : Int} {ms sv pv : Value} {fs : List (ByteArray × List ByteArray)} {x rx : ByteArray} {rav : Value} {rargs : List ByteArray} {R MD V k : Nat} (hk : k < 3) (h : MethSt L B b acc w p t0 t1 t2 n0 n1 n2 ms sv pv fs x rx rav rargs R MD V) : FiveM w R MD p x k (tn3 n0 n1 n2 k) := by
  refine ⟨cell_row (j := 0) h.r2 rfl, cell_row (j := 2) h.r2 rfl, cell_row (j := 9) h.md rfl, cell_row (j := 3) h.env.num.sh rfl, ?_⟩
  match k, hk with
  | 0, _ => exact cell_row (j := 0) h.env.num.nb rfl
  | 1, _ => exact cell_row (j := 1) h.env.num.nb rfl
  | 2, _ => exact cell_row (j := 2) h.env.num.nb rfl

/-- The cells of the statement that calls signature. -/
def NineM (w : World) (R MD : Nat) (p : NBlk) (pv : Value) (rx : ByteArray) (rav : Value) : Prop :=
  w.cell? ⟨R, 0, none⟩ = some (.pointer (some ⟨p.sh, 0, none⟩)) ∧ w.cell? ⟨R, 1, none⟩ = some (.slice (some ⟨p.tb, 0, none⟩) 3 3) ∧ w.cell? ⟨R, 2, none⟩ = some (.slice (some ⟨p.nb, 0, none⟩) 3 3) ∧ w.cell? ⟨MD, 10, none⟩ = some (.slice none 0 0) ∧ w.cell? ⟨MD, 11, none⟩ = some pv ∧ w.cell? ⟨MD, 12, none⟩ = some (.int .i64 0) ∧ w.cell? ⟨MD, 13, none⟩ = some (.int .i64 0) ∧ w.cell? ⟨MD, 14, none⟩ = some (.string rx) ∧ w.cell? ⟨MD, 15, none⟩ = some rav

theorem nineM {L B b : Nat} {acc : ByteArray} {w : World} {p : NBlk} {t0 t1 t2 n0 n1 n2 : Int} {ms sv pv : Value} {fs : List (ByteArray × List ByteArray)} {x rx : ByteArray} {rav : Value} {rargs : List ByteArray} {R MD V : Nat} (h : MethSt L B b acc w p t0 t1 t2 n0 n1 n2 ms sv pv fs x rx rav rargs R MD V) : NineM w R MD p pv rx rav :=
  ⟨cell_row (j := 0) h.r2 rfl, cell_row (j := 1) h.r2 rfl, cell_row (j := 2) h.r2 rfl, cell_row (j := 10) h.md rfl, cell_row (j := 11) h.md rfl, cell_row (j := 12) h.md rfl, cell_row (j := 13) h.md rfl, cell_row (j := 14) h.md rfl, cell_row (j := 15) h.md rfl⟩

theorem sigText_size {t0 t1 t2 : Int} (h0 : Fits t0) (h1 : Fits t1) (h2 : Fits t2) (names : List ByteArray) (hn : names.length ≤ 100) (fs : List (ByteArray × List ByteArray)) (hl : fs.length ≤ 300) (hg : ∀ q ∈ fs, q.2.length ≤ 300) (rx : ByteArray) (rargs : List ByteArray) (hr : rargs.length ≤ 300) : (sigText t0 t1 t2 names fs rx rargs).size ≤ 3000000 := by
  have e1 := semis_size (fs.map fun q => tyText t0 t1 t2 names q.1 q.2) 7000 (fun a ha => by
    rw [List.mem_map] at ha
    obtain ⟨q, hq, rfl⟩ := ha
    exact tyText_size h0 h1 h2 names hn q.1 q.2 (hg q hq)) fs.length
  rw [List.take_of_length_le (by simp)] at e1
  have e2 := tyText_size h0 h1 h2 names hn rx rargs hr
  unfold sigText
  rw [ByteArray.size_append, ByteArray.size_append, ByteArray.size_append, ByteArray.size_append, ByteArray.size_append]
  have s1 : (⟨#[60]⟩ : ByteArray).size = 1 := rfl
  have s2 : (⟨#[62]⟩ : ByteArray).size = 1 := rfl
  have s3 : (⟨#[40]⟩ : ByteArray).size = 1 := rfl
  have s4 : (⟨#[41]⟩ : ByteArray).size = 1 := rfl
  omega

theorem scope_rep {T : Nat} {w : World} {v : Value} {n : Nat} (h : w.ownsRow T 9 1 v (n + 1) (List.replicate (n + 1) (.string ⟨#[]⟩))) : Scope w v (List.replicate (n + 1) ⟨#[]⟩) := by
  rcases h.2 with ⟨_, h0⟩ | ⟨g, cap, cur, rfl, _, hg, _, _, _, ht⟩
  · omega
  · refine ⟨some ⟨g, 0, none⟩, cap, by simp, fun _ => ⟨g, cur, rfl, hg, fun j hj => ?_⟩⟩
    have hj' : j < n + 1 := by simpa using hj
    have e : (cur.toList.take ((n + 1) * 1))[j]? = (List.replicate (n + 1) (Value.string ⟨#[]⟩))[j]? := by rw [ht]
    rw [List.getElem?_take, if_pos (by omega), List.getElem?_replicate, if_pos hj'] at e
    simpa using e

theorem idx_rep (n : Nat) : Lib.idxOfS (List.replicate (n + 1) ⟨#[]⟩) ⟨#[]⟩ = 0 := by
  unfold Lib.idxOfS
  rw [List.replicate_succ]
  unfold Lib.idxFromS
  simp

set_option maxRecDepth 100000 in
set_option maxHeartbeats 1000000 in
theorem meth_any (L MD V k : Nat) (w : World) (p : NBlk) (t0 t1 t2 n0 n1 n2 : Int) (ms pv rav : Value) (fs : List (ByteArray × List ByteArray)) (rx : ByteArray) (rargs : List ByteArray) (hk : k < 3) (hN : NumOK w p t0 t1 t2 n0 n1 n2 ms) (ht : Tab L w) (hL : L ≤ w.heap.size) (f0 : Fits t0) (f1 : Fits t1) (f2 : Fits t2) (g0 : Fits n0) (g1 : Fits n1) (g2 : Fits n2)
    (hMD : w.heap[MD]? = some (.cells (methCells (mnameOf k) pv rx rav V) 64 (0, 0))) (hV : w.heap[V]? = some (.cells #[.int .i64 0, .int .i64 0, .string ⟨#[]⟩] 58 (0, 0))) (hfl : FldRow w pv fs) (hra : TyArgs w rav rargs) (hg : ∀ q ∈ fs, TyGood [] q.1 q.2) (hgr : TyGood [] rx rargs) (hl : fs.length ≤ 300) :
    Calls Ybad.prog 21 #[p.val, .pointer (some ⟨MD, 0, none⟩)] w fun e w' => e = .returned (.string (⟨#[109]⟩ ++ num (tn3 n0 n1 n2 k) ++ ⟨#[45]⟩ ++ sigText t0 t1 t2 [] fs rx rargs ++ ⟨#[61]⟩ ++ (⟨#[118]⟩ ++ num 0))) ∧ Below w.heap.size w w' := by
  have m6 : w.cell? ⟨MD, 6, none⟩ = some (.slice none 0 0) := cell_row (j := 6) hMD rfl
  have hMlt : MD < w.heap.size := (Array.getElem?_eq_some_iff.1 hMD).1
  have hbx := two_below w (Obj.cells #[Value.pointer (some { block := p.sh, off := 0 }), Value.slice (some { block := p.tb, off := 0 }) 3 3, Value.slice (some { block := p.nb, off := 0 }) 3 3] 75) (Obj.cells #[Value.pointer none, Value.slice none 0 0] 101)
  obtain ⟨hr2, _⟩ := two_rows w (Obj.cells #[Value.pointer (some { block := p.sh, off := 0 }), Value.slice (some { block := p.tb, off := 0 }) 3 3, Value.slice (some { block := p.nb, off := 0 }) 3 3] 75) (Obj.cells #[Value.pointer none, Value.slice none 0 0] 101)
  have hbd0 : Bd (w.heap.size + 1) (w.heap.size + 1) ByteArray.empty ((w.alloc (Obj.cells #[Value.pointer (some { block := p.sh, off := 0 }), Value.slice (some { block := p.tb, off := 0 }) 3 3, Value.slice (some { block := p.nb, off := 0 }) 3 3] 75)).alloc (Obj.cells #[Value.pointer none, Value.slice none 0 0] 101)) := by
    have h := bd_new (w.alloc (Obj.cells #[Value.pointer (some { block := p.sh, off := 0 }), Value.slice (some { block := p.tb, off := 0 }) 3 3, Value.slice (some { block := p.nb, off := 0 }) 3 3] 75))
    simpa using h
  have HS0 : Hid (MethSt L (w.heap.size + 1) (w.heap.size + 1) ByteArray.empty _ p t0 t1 t2 n0 n1 n2 ms (.slice none 0 0) pv fs (mnameOf k) rx rav rargs w.heap.size MD V) :=
    ⟨⟨hN.below hbx, ⟨none, 0, rfl, fun h => by simp at h⟩, hbd0, ht.below hbx hL, by omega, by simp, f0, f1, f2⟩, hfl.below hbx, hra.below hbx, hr2, (hbx.block _ hMlt).trans hMD, (hbx.block _ (Array.getElem?_eq_some_iff.1 hV).1).trans hV⟩
  have HB0 : Hid (Below w.heap.size w _) := hbx
  have hfn : Fits (tn3 n0 n1 n2 k) := fits_tn g0 g1 g2 k
  obtain ⟨pa, pc, rfl, _⟩ := id hfl
  obtain ⟨ra, rc, rfl, _⟩ := id hra
  clear hbx hr2 hbd0 hN ht hMD hV hfl hra
  unfold NBlk.val
  go_enter Ybad.func21, Ybad.ntmps21
  go_wp2_with fail
  generalize (w.alloc (Obj.cells #[Value.pointer (some { block := p.sh, off := 0 }), Value.slice (some { block := p.tb, off := 0 }) 3 3, Value.slice (some { block := p.nb, off := 0 }) 3 3] 75)).alloc (Obj.cells #[Value.pointer none, Value.slice none 0 0] 101) = X at *
  generalize hR : w.heap.size = R at *
  refine (pnames_any X (.slice none 0 0) [] ⟨none, 0, rfl, fun h => by simp at h⟩ (by simp)).mono ?_
  rintro e w0 ⟨s1, rfl, hs1, hb1⟩
  have hS1 := (HS0.out.below hb1).scope hs1
  have HS1 : Hid (MethSt L (R + 1) (R + 1) ByteArray.empty w0 p t0 t1 t2 n0 n1 n2 ms s1 (.slice pa fs.length pc) fs (mnameOf k) rx (.slice ra rargs.length rc) rargs R MD V) := hS1
  have HB1 : Hid (Below R w w0) := HB0.out.trans (hb1.mono (by have := HB0.out.size; omega))
  obtain ⟨q0, q1, q2, q3, q4⟩ := fiveM hk hS1
  have hlk : ∀ n, (Instr.lookup 95 (.map (some p.mn)) (.string (mnameOf k)) false).run Ybad.prog (w0.drewN n) = .ok (.int .i64 k) (w0.drewN n) := fun n => look_m (w0.drewN n) p t0 t1 t2 n0 n1 n2 ms k hk ⟨hS1.env.num.sh, hS1.env.num.pg, hS1.env.num.mt, hS1.env.num.mn, hS1.env.num.tb, hS1.env.num.nb⟩
  have hlk1 : (Instr.lookup 95 (.map (some p.mn)) (.string (mnameOf k)) false).run Ybad.prog w0.drew = .ok (.int .i64 k) w0.drew := hlk 1
  have hnz := num_size (tn3 n0 n1 n2 k) hfn
  have HI : Hid (∀ W, Below w0.heap.size w0 W → Calls Ybad.prog 13 #[.int .i64 (tn3 n0 n1 n2 k)] W fun e w1 => e = .returned (.string (num (tn3 n0 n1 n2 k))) ∧ Below w0.heap.size w0 w1 ∧ FiveM w1 R MD p (mnameOf k) k (tn3 n0 n1 n2 k)) := fun W hW => by
    have hE := HS1.out.below hW
    refine (itoa_any L _ hfn W hE.env.tab).mono ?_
    rintro e w1 ⟨rfl, hb1⟩
    have hb := hW.trans (hb1.mono hW.size)
    exact ⟨rfl, hb, fiveM hk (HS1.out.below hb)⟩
  have HW : Hid (∀ w1, Below w0.heap.size w0 w1 → Calls Ybad.prog 18 #[.pointer (some ⟨R + 1, 0, none⟩), .string (⟨#[109]⟩ ++ num (tn3 n0 n1 n2 k))] w1 fun e w2 => e = .returned (.tuple #[.int .i64 (⟨#[109]⟩ ++ num (tn3 n0 n1 n2 k)).size, .nilIface]) ∧ MethSt L (R + 1) (R + 1) (ByteArray.empty ++ (⟨#[109]⟩ ++ num (tn3 n0 n1 n2 k))) w2 p t0 t1 t2 n0 n1 n2 ms s1 (.slice pa fs.length pc) fs (mnameOf k) rx (.slice ra rargs.length rc) rargs R MD V ∧ Below R w w2 ∧ FiveM w2 R MD p (mnameOf k) k (tn3 n0 n1 n2 k)) := fun w1 hb => by
    have hE := HS1.out.below hb
    refine (write_any (R + 1) (R + 1) ByteArray.empty _ w1 hE.env.bd (by rw [ByteArray.size_append]; have hs : (⟨#[109]⟩ : ByteArray).size = 1 := rfl; have he : ByteArray.empty.size = 0 := rfl; omega) hE.env.hB).mono ?_
    rintro e w2 ⟨rfl, hbd2, hf2⟩
    have hS2 := hE.wrote hf2 hbd2
    exact ⟨rfl, hS2, (HB1.out.trans (hb.mono (by have := HB1.out.size; omega))).trans (hf2.bel.mono (by omega)), fiveM hk hS2⟩
  have j0 : (0 : Int) ≤ (k : Int) := by omega
  have j1 : (k : Int) < 3 := by omega
  have hs1' : (⟨#[109]⟩ : ByteArray).size = 1 := rfl
  clear HS0 HB0 hb1 hS1 hs1 m6
  generalize hnt : num (tn3 n0 n1 n2 k) = nt at *
  have HNT : Hid (num (tn3 n0 n1 n2 k) = nt) := hnt
  clear hnt
  generalize htv : tn3 n0 n1 n2 k = tv at *
  have HTV : Hid (tn3 n0 n1 n2 k = tv) := htv
  clear htv
  generalize mnameOf k = nk at *
  have hadd : ∀ W : World, (Op.stringOp .add ⟨#[109]⟩ nt).run Ybad.prog W = .ok (.string (⟨#[109]⟩ ++ nt)) W := fun W => run_string_add_sum W _ _ (by rw [hs1']; omega)
  have hcat : 1 + nt.size ≤ 9223372036854775807 := by omega
  go_wp2_with fail
  go_region_held3 (fun w' => w'.cell? ⟨R, 0, none⟩ = some (.pointer (some ⟨p.sh, 0, none⟩)) ∧ w'.cell? ⟨R, 2, none⟩ = some (.slice (some ⟨p.nb, 0, none⟩) 3 3) ∧ w'.cell? ⟨MD, 9, none⟩ = some (.string nk) ∧ w'.cell? ⟨p.sh, 3, none⟩ = some (.map (some p.mn)) ∧ w'.cell? ⟨p.nb, k, none⟩ = some (.int .i64 tv)) (go_keep) ((first | (go_at_call 13; refine (HI.out _ ?_).mono ?_; (exact ⟨rfl, rfl, rfl, Nat.le_refl _, fun _ _ => rfl⟩); rintro e w1 ⟨rfl, hb1, u0, u1, u2, u3, u4⟩) | (go_at_call 18; refine (HW.out w1 ?_).mono ?_; (exact hb1); rintro e w2 ⟨rfl, hS2, hB2, y0, y1, y2, y3, y4⟩)))
  have HS2 : Hid (MethSt L (R + 1) (R + 1) (ByteArray.empty ++ (⟨#[109]⟩ ++ nt)) w2 p t0 t1 t2 n0 n1 n2 ms s1 (.slice pa fs.length pc) fs nk rx (.slice ra rargs.length rc) rargs R MD V) := hS2
  have HB2 : Hid (Below R w w2) := hB2
  have m6 : w2.cell? ⟨MD, 6, none⟩ = some (.slice none 0 0) := cell_row (j := 6) hS2.md rfl
  have hA2 : (ByteArray.empty ++ (⟨#[109]⟩ ++ nt)).size ≤ 22 := by
    rw [ByteArray.size_append, ByteArray.size_append, hs1']
    have he : ByteArray.empty.size = 0 := rfl
    omega
  clear HI HW HS1 HB1 q0 q1 q2 q3 q4 u0 u1 u2 u3 u4 y0 y1 y2 y3 y4 hlk hlk1 hadd hcat hS2 hB2 hb1
  generalize hac : ByteArray.empty ++ (⟨#[109]⟩ ++ nt) = acc2 at *
  have HAC2 : Hid (ByteArray.empty ++ (⟨#[109]⟩ ++ nt) = acc2) := hac
  clear hac
  have hs45 : (⟨#[45]⟩ : ByteArray).size = 1 := rfl
  go_wp2_with fail
  refine (write_any (R + 1) (R + 1) acc2 ⟨#[45]⟩ w2 HS2.out.env.bd (by rw [hs45]; omega) HS2.out.env.hB).mono ?_
  rintro e w3 ⟨rfl, hbd3, hf3⟩
  have hS3 := HS2.out.wrote hf3 hbd3
  have HS3 : Hid (MethSt L (R + 1) (R + 1) (acc2 ++ ⟨#[45]⟩) w3 p t0 t1 t2 n0 n1 n2 ms s1 (.slice pa fs.length pc) fs nk rx (.slice ra rargs.length rc) rargs R MD V) := hS3
  have HB3 : Hid (Below R w w3) := HB2.out.trans (hf3.bel.mono (by omega))
  have hA3 : (acc2 ++ ⟨#[45]⟩).size ≤ 23 := by rw [ByteArray.size_append, hs45]; omega
  have b0 := cell_row (j := 0) hS3.r2 rfl
  have b1 := cell_row (j := 1) hS3.r2 rfl
  have b2 := cell_row (j := 2) hS3.r2 rfl
  have d10 : w3.cell? ⟨MD, 10, none⟩ = some (.slice none 0 0) := cell_row (j := 10) hS3.md rfl
  have d11 : w3.cell? ⟨MD, 11, none⟩ = some (.slice pa fs.length pc) := cell_row (j := 11) hS3.md rfl
  have d12 : w3.cell? ⟨MD, 12, none⟩ = some (.int .i64 0) := cell_row (j := 12) hS3.md rfl
  have d13 : w3.cell? ⟨MD, 13, none⟩ = some (.int .i64 0) := cell_row (j := 13) hS3.md rfl
  have d14 : w3.cell? ⟨MD, 14, none⟩ = some (.string rx) := cell_row (j := 14) hS3.md rfl
  have d15 : w3.cell? ⟨MD, 15, none⟩ = some (.slice ra rargs.length rc) := cell_row (j := 15) hS3.md rfl
  clear HS2 HB2 m6 hbd3 hf3 hS3
  generalize hac : acc2 ++ ⟨#[45]⟩ = acc3 at *
  have HAC3 : Hid (acc2 ++ ⟨#[45]⟩ = acc3) := hac
  clear hac
  have HSG : Hid (∀ N, Calls Ybad.prog 42 #[.agg #[Value.pointer (some { block := p.sh, off := 0 }), Value.slice (some { block := p.tb, off := 0 }) 3 3, Value.slice (some { block := p.nb, off := 0 }) 3 3], .pointer (some ⟨R + 1, 0, none⟩), .agg #[.slice none 0 0, .slice pa fs.length pc, .int .i64 0, .int .i64 0, .string rx, .slice ra rargs.length rc], s1] (w3.drewN N) fun e w4 => ∃ s2, e = .returned s2 ∧ MethSt L (R + 1) (R + 1) (acc3 ++ sigText t0 t1 t2 [] fs rx rargs) w4 p t0 t1 t2 n0 n1 n2 ms s2 (.slice pa fs.length pc) fs nk rx (.slice ra rargs.length rc) rargs R MD V ∧ Below R w w4 ∧ NineM w4 R MD p (.slice pa fs.length pc) rx (.slice ra rargs.length rc)) := fun N => by
    have hb0 : Below w3.heap.size w3 (w3.drewN N) := ⟨rfl, rfl, rfl, Nat.le_refl _, fun _ _ => rfl⟩
    have hE := HS3.out.below hb0
    refine (sig_any L (R + 1) (R + 1) acc3 (w3.drewN N) p t0 t1 t2 n0 n1 n2 ms s1 (.slice pa fs.length pc) [] fs rx (.slice ra rargs.length rc) rargs cat_none hE.fl hE.ra hg hgr hE.env (by simp) hl (by omega)).mono ?_
    rintro e w4 ⟨s2, rfl, hsc, hbd4, hf4⟩
    have hS4 := (hE.wrote hf4 hbd4).scope hsc
    exact ⟨s2, rfl, hS4, (HB3.out.trans (hb0.mono (by have := HB3.out.size; omega))).trans (hf4.bel.mono (by omega)), nineM hS4⟩
  go_wp2_with fail
  go_region_held3 (fun w' => w'.cell? ⟨R, 0, none⟩ = some (.pointer (some ⟨p.sh, 0, none⟩)) ∧ w'.cell? ⟨R, 1, none⟩ = some (.slice (some ⟨p.tb, 0, none⟩) 3 3) ∧ w'.cell? ⟨R, 2, none⟩ = some (.slice (some ⟨p.nb, 0, none⟩) 3 3) ∧ w'.cell? ⟨MD, 10, none⟩ = some (.slice none 0 0) ∧ w'.cell? ⟨MD, 11, none⟩ = some (.slice pa fs.length pc) ∧ w'.cell? ⟨MD, 12, none⟩ = some (.int .i64 0) ∧ w'.cell? ⟨MD, 13, none⟩ = some (.int .i64 0) ∧ w'.cell? ⟨MD, 14, none⟩ = some (.string rx) ∧ w'.cell? ⟨MD, 15, none⟩ = some (.slice ra rargs.length rc)) (go_keep) ((go_at_call 42; refine (HSG.out 1).mono ?_; rintro e w4 ⟨s2, rfl, hS4, hB4, y0, y1, y2, y3, y4, y5, y6, y7, y8⟩))
  have HS4 : Hid (MethSt L (R + 1) (R + 1) (acc3 ++ sigText t0 t1 t2 [] fs rx rargs) w4 p t0 t1 t2 n0 n1 n2 ms s2 (.slice pa fs.length pc) fs nk rx (.slice ra rargs.length rc) rargs R MD V) := hS4
  have HB4 : Hid (Below R w w4) := hB4
  have m2 : w4.cell? ⟨MD, 2, none⟩ = some (.string ⟨#[]⟩) := cell_row (j := 2) hS4.md rfl
  have hMD4 : MD < w4.heap.size := (Array.getElem?_eq_some_iff.1 hS4.md).1
  obtain ⟨i9, hi9, hz9, hs9, hb9⟩ := info_parts info9
  clear HSG HS3 HB3 b0 b1 b2 d10 d11 d12 d13 d14 d15 y0 y1 y2 y3 y5 y6 y7 y8 hS4 hB4
  go_wp2_with fail
  have HV0 : Hid ((w4.alloc (Obj.cells #[Value.string ⟨#[]⟩] 9)).ownsRow w4.heap.size 9 1 (.slice (some ⟨w4.heap.size, 0, none⟩) 1 1) 1 (List.replicate 1 (.string ⟨#[]⟩)) ∧ Below w4.heap.size w4 (w4.alloc (Obj.cells #[Value.string ⟨#[]⟩] 9))) :=
    ⟨⟨rfl, .inr ⟨w4.heap.size, 1, #[.string ⟨#[]⟩], rfl, Nat.le_refl _, heap_alloc_newD _ _, Nat.le_refl _, by decide, rfl, rfl⟩⟩, (Below.refl _ w4).alloc (Nat.le_refl _) _⟩
  generalize hT4 : w4.heap.size = T4 at *
  go_loopw [7, 82] (fun vv i wr => ∃ j : Nat, j ≤ fs.length ∧ i = .int .i64 j ∧ wr.ownsRow T4 9 1 vv (j + 1) (List.replicate (j + 1) (.string ⟨#[]⟩)) ∧ Below T4 w4 wr) (fun _ i _ => fs.length - (intOf i).toNat)
  case atStart => exact ⟨0, Nat.zero_le _, rfl, HV0.out.1, HV0.out.2⟩
  case round =>
    obtain ⟨j, hj, rfl, hown, hbw⟩ := hrel
    clear HV0
    by_cases hlt : j < fs.length
    · obtain ⟨a', c', he, hta⟩ := id HS4.out.fl
      simp only [Value.slice.injEq, true_and] at he
      obtain ⟨rfl, rfl⟩ := he
      obtain ⟨g, cur, rfl, hgrr, hcur⟩ := hta (by omega)
      obtain ⟨k0, k1, k2, k3, k4, k5, av, k6, hav⟩ := hcur j hlt
      obtain ⟨va, vc, rfl, _⟩ := id hav
      have hgT : g < T4 := by rw [← hT4]; exact (Array.getElem?_eq_some_iff.1 hgrr).1
      have hgw : wr.heap[g]? = some (.cells cur 49 (0, 0)) := (hbw.block g hgT).trans hgrr
      have c0 := cell_row (j := j * 7) hgw k0
      have c1 := cell_row (j := j * 7 + 1) hgw k1
      have c2 := cell_row (j := j * 7 + 2) hgw k2
      have c3 := cell_row (j := j * 7 + 3) hgw k3
      have c4 := cell_row (j := j * 7 + 4) hgw k4
      have c5 := cell_row (j := j * 7 + 5) hgw k5
      have c6 := cell_row (j := j * 7 + 6) hgw k6
      have hTw : T4 ≤ wr.heap.size := by have := hbw.size; omega
      have q3 : j + 1 + 1 ≤ maxLen := by unfold maxLen; omega
      have q4 : (j + 1 + 1) * 16 ≤ 140737488355328 := by omega
      clear hgrr hcur k0 k1 k2 k3 k4 k5 k6 hta hav hgw
      generalize fs[j].1 = xj at *
      generalize fs[j].2 = aj at *
      go_wp2_with (at_builtin; refine wpList_append_lies _ rfl _ _ 51 rfl T4 9 i9 _ 1 16 Ybad.underlying51 hi9 hz9 hs9 hb9 rfl (by decide) _ (j + 1) _ rfl ((hown.alloc _).alloc _) _ 1 1 [.string ⟨#[]⟩] rfl rfl ?c1 ?c2 (by decide) q3 q4 ?c5 _ rfl ?_)
      case c1 =>
        intro j u hj
        match j, hj with
        | 0, hj => simp at hj; subst hj; simp [Addr.add]
      case c2 => intro u hu; simp at hu; subst hu; rfl
      case c5 => simp; omega
      intro g5 cap5 w5 hown5 hgrow5 hat5 hlt5
      have hb5 : Below T4 w4 w5 := by
        have hbx := (hbw.alloc (o := Obj.cells #[Value.int IntKind.i64 0, Value.int IntKind.i64 0, Value.string ⟨#[]⟩, Value.int IntKind.i64 0, Value.int IntKind.i64 0, Value.string xj, Value.slice va aj.length vc] 49) (by omega)).alloc (o := Obj.cells #[Value.string ⟨#[]⟩] 9) (by simp; omega)
        exact hbx.grown hgrow5 (by simp; omega) (fun k hk => (hown.lt k hk).1)
      go_wp2_with fail
      go_roundw
      case rel => exact ⟨j + 1, by omega, by go_num, by rw [List.replicate_succ']; exact hown5, hb5⟩
      case measure => simp [intOf]; omega
    · obtain rfl : j = fs.length := by omega
      have hS5 := HS4.out.below (w' := wr) (by rw [hT4]; exact hbw)
      have HS5 : Hid (MethSt L (R + 1) (R + 1) (acc3 ++ sigText t0 t1 t2 [] fs rx rargs) wr p t0 t1 t2 n0 n1 n2 ms s2 (.slice pa fs.length pc) fs nk rx (.slice ra rargs.length rc) rargs R MD V) := hS5
      have HB5 : Hid (Below R w wr) := HB4.out.trans (hbw.mono (by have := HB4.out.size; omega))
      have HSC : Hid (Scope wr u7 (List.replicate (fs.length + 1) ⟨#[]⟩)) := scope_rep hown
      have hgz := sigText_size HS4.out.env.f0 HS4.out.env.f1 HS4.out.env.f2 [] (by simp) fs hl (fun q hq => (hg q hq).2.2.2) rx rargs hgr.2.2.2
      have hA5 : (acc3 ++ sigText t0 t1 t2 [] fs rx rargs).size ≤ 4000000 := by rw [ByteArray.size_append]; omega
      clear hown hbw hS5 HS4 HB4 m2 y4
      generalize hac : acc3 ++ sigText t0 t1 t2 [] fs rx rargs = acc5 at *
      have HAC5 : Hid (acc3 ++ sigText t0 t1 t2 [] fs rx rargs = acc5) := hac
      clear hac
      have hs61 : (⟨#[61]⟩ : ByteArray).size = 1 := rfl
      go_wp2_with fail
      refine (write_any (R + 1) (R + 1) acc5 ⟨#[61]⟩ wr HS5.out.env.bd (by rw [hs61]; omega) HS5.out.env.hB).mono ?_
      rintro e w6 ⟨rfl, hbd6, hf6⟩
      have hS6 := HS5.out.wrote hf6 hbd6
      have hSC6 := HSC.out.fr HS5.out.env.bd hf6
      have HB6 : Hid (Below R w w6) := HB5.out.trans (hf6.bel.mono (by omega))
      have b0 := cell_row (j := 0) hS6.r2 rfl
      have b1 := cell_row (j := 1) hS6.r2 rfl
      have b2 := cell_row (j := 2) hS6.r2 rfl
      have d16 : w6.cell? ⟨MD, 16, none⟩ = some (.iface 57 (.pointer (some ⟨V, 0, none⟩))) := cell_row (j := 16) hS6.md rfl
      have hA6 : (acc5 ++ ⟨#[61]⟩).size ≤ 4000001 := by rw [ByteArray.size_append, hs61]; omega
      have HEX : Hid (∀ N, Calls Ybad.prog 43 #[.agg #[Value.pointer (some { block := p.sh, off := 0 }), Value.slice (some { block := p.tb, off := 0 }) 3 3, Value.slice (some { block := p.nb, off := 0 }) 3 3], .pointer (some ⟨R + 1, 0, none⟩), .iface 57 (.pointer (some ⟨V, 0, none⟩)), u7, s2] (w6.drewN N) fun e w7 => e = .returned (.tuple #[]) ∧ Bd (R + 1) (R + 1) (acc5 ++ ⟨#[61]⟩ ++ (⟨#[118]⟩ ++ num 0)) w7 ∧ R + 1 ≤ w7.heap.size ∧ Below R w w7 ∧ w7.cell? ⟨R, 0, none⟩ = some (.pointer (some ⟨p.sh, 0, none⟩)) ∧ w7.cell? ⟨R, 1, none⟩ = some (.slice (some ⟨p.tb, 0, none⟩) 3 3) ∧ w7.cell? ⟨R, 2, none⟩ = some (.slice (some ⟨p.nb, 0, none⟩) 3 3) ∧ w7.cell? ⟨MD, 16, none⟩ = some (.iface 57 (.pointer (some ⟨V, 0, none⟩)))) := fun N => by
        have hb0 : Below w6.heap.size w6 (w6.drewN N) := ⟨rfl, rfl, rfl, Nat.le_refl _, fun _ _ => rfl⟩
        have hE := hS6.below hb0
        refine (expr_var L (R + 1) (R + 1) V (acc5 ++ ⟨#[61]⟩) ⟨#[]⟩ (w6.drewN N) p t0 t1 t2 n0 n1 n2 ms s2 u7 [] (List.replicate (fs.length + 1) ⟨#[]⟩) (hSC6.below hb0) (by simp; omega) hE.v hE.env (by omega)).mono ?_
        rintro e w7 ⟨rfl, hbd7, hf7⟩
        rw [idx_rep] at hbd7
        have hS7 := hE.wrote hf7 hbd7
        exact ⟨rfl, hbd7, hS7.env.hB, (HB6.out.trans (hb0.mono (by have := HB6.out.size; omega))).trans (hf7.bel.mono (by omega)), cell_row (j := 0) hS7.r2 rfl, cell_row (j := 1) hS7.r2 rfl, cell_row (j := 2) hS7.r2 rfl, cell_row (j := 16) hS7.md rfl⟩
      clear HS5 HB5 HSC hbd6 hf6 hS6 hSC6 HB6
      go_wp2_with fail
      go_region_held3 (fun w' => w'.cell? ⟨R, 0, none⟩ = some (.pointer (some ⟨p.sh, 0, none⟩)) ∧ w'.cell? ⟨R, 1, none⟩ = some (.slice (some ⟨p.tb, 0, none⟩) 3 3) ∧ w'.cell? ⟨R, 2, none⟩ = some (.slice (some ⟨p.nb, 0, none⟩) 3 3) ∧ w'.cell? ⟨MD, 16, none⟩ = some (.iface 57 (.pointer (some ⟨V, 0, none⟩)))) (go_keep) ((go_at_call 43; refine (HEX.out 1).mono ?_; rintro e w7 ⟨rfl, hbd7, hB7, hb7, z0, z1, z2, z3⟩))
      go_wp2_with fail
      refine (string_any (R + 1) (R + 1) _ w7 hbd7 hB7).mono ?_
      rintro e w8 ⟨rfl, _, hf8⟩
      go_wp2_with fail
      go_ret
      refine ⟨?_, by rw [hR]; exact hb7.trans (hf8.bel.mono (by omega))⟩
      rw [← HAC5.out, ← HAC3.out, ← HAC2.out, ← HNT.out, HTV.out]
      simp [ByteArray.append_assoc]
end Go.Proofs.YbulkbmowDoor
