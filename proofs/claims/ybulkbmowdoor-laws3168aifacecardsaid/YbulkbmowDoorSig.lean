/-
  numbering.signature.
-/
import Derived.Test.YbulkbmowDoorCat
namespace Go.Proofs.YbulkbmowDoor
open Go.RowKit Go

/-- A row of fields without names: each a type. -/
def FldRow (w : World) (v : Value) (fs : List (ByteArray × List ByteArray)) : Prop :=
  ∃ a c, v = .slice a fs.length c ∧ (0 < fs.length → ∃ g cur, a = some ⟨g, 0, none⟩ ∧ w.heap[g]? = some (.cells cur 49 (0, 0)) ∧ ∀ j (h : j < fs.length), cur[j * 7]? = some (.int .i64 0) ∧ cur[j * 7 + 1]? = some (.int .i64 0) ∧ cur[j * 7 + 2]? = some (.string ⟨#[]⟩) ∧ cur[j * 7 + 3]? = some (.int .i64 0) ∧ cur[j * 7 + 4]? = some (.int .i64 0) ∧ cur[j * 7 + 5]? = some (.string fs[j].1) ∧ ∃ av, cur[j * 7 + 6]? = some av ∧ TyArgs w av fs[j].2)

theorem FldRow.below {w w' : World} {v : Value} {fs : List (ByteArray × List ByteArray)} (h : FldRow w v fs) (hb : Below w.heap.size w w') : FldRow w' v fs := by
  obtain ⟨a, c, h1, h2⟩ := h
  refine ⟨a, c, h1, fun hp => ?_⟩
  obtain ⟨g, cur, h3, h4, h5⟩ := h2 hp
  refine ⟨g, cur, h3, (hb.block g (Array.getElem?_eq_some_iff.1 h4).1).trans h4, fun j hj => ?_⟩
  obtain ⟨k0, k1, k2, k3, k4, k5, av, k6, k7⟩ := h5 j hj
  exact ⟨k0, k1, k2, k3, k4, k5, av, k6, k7.below hb⟩

theorem FldRow.fr {w w' : World} {v : Value} {fs : List (ByteArray × List ByteArray)} {B b : Nat} {acc : ByteArray} (h : FldRow w v fs) (hbd : Bd B b acc w) (hf : Fr B b w w') : FldRow w' v fs := by
  obtain ⟨a, c, h1, h2⟩ := h
  refine ⟨a, c, h1, fun hp => ?_⟩
  obtain ⟨g, cur, h3, h4, h5⟩ := h2 hp
  refine ⟨g, cur, h3, hf.row hbd h4 (by decide) (by decide), fun j hj => ?_⟩
  obtain ⟨k0, k1, k2, k3, k4, k5, av, k6, k7⟩ := h5 j hj
  exact ⟨k0, k1, k2, k3, k4, k5, av, k6, k7.fr hbd hf⟩

/-- What Concat gives of the outer names and none beside. -/
def Cat (names : List ByteArray) : Prop :=
  ∀ (w : World) (g : Nat) (sv : Value) (a2 : Option Addr) (c2 : Nat), Scope w sv names → w.heap[g]? = some (.cells #[sv, .slice a2 0 c2] 51 (0, 0)) →
    Calls Ybad.prog 55 #[.slice (some ⟨g, 0, none⟩) 2 2] w fun e w' => ∃ v', e = .returned v' ∧ Scope w' v' names ∧ Below w.heap.size w w'

theorem cat_none : Cat [] := by
  intro w g sv a2 c2 hs hg
  obtain ⟨a, c, rfl, _⟩ := hs
  refine (concat_none g a a2 c c2 w (cell_row (j := 0) hg rfl) (cell_row (j := 1) hg rfl)).mono ?_
  rintro e w' ⟨rfl, rfl⟩
  exact ⟨_, rfl, ⟨none, 0, rfl, fun h => by simp at h⟩, Below.refl _ _⟩

def sigV (pv : Value) (rx : ByteArray) (rav : Value) : Value := .agg #[.slice none 0 0, pv, .int .i64 0, .int .i64 0, .string rx, rav]

/-- What the walk carries. -/
structure SigSt (L B b : Nat) (acc : ByteArray) (w : World) (p : NBlk) (t0 t1 t2 n0 n1 n2 : Int) (ms sv pv : Value) (names : List ByteArray) (fs : List (ByteArray × List ByteArray)) (rx : ByteArray) (rav : Value) (rargs : List ByteArray) (R : Nat) : Prop where
  env : Env L B b acc w p t0 t1 t2 n0 n1 n2 ms sv names
  fl : FldRow w pv fs
  ra : TyArgs w rav rargs
  r4 : w.heap[R]? = some (Obj.cells #[Value.pointer (some { block := p.sh, off := 0 }), Value.slice (some { block := p.tb, off := 0 }) 3 3, Value.slice (some { block := p.nb, off := 0 }) 3 3] 75 (0, 0))
  r6 : w.heap[R + 1]? = some (Obj.cells #[Value.slice none 0 0, pv, Value.int IntKind.i64 0, Value.int IntKind.i64 0, Value.string rx, rav] 53 (0, 0))

section
variable {L B b : Nat} {acc acc' : ByteArray} {w w' : World} {p : NBlk} {t0 t1 t2 n0 n1 n2 : Int} {ms sv sv' pv : Value} {names : List ByteArray} {fs : List (ByteArray × List ByteArray)} {rx : ByteArray} {rav : Value} {rargs : List ByteArray} {R : Nat}
theorem SigSt.below (h : SigSt L B b acc w p t0 t1 t2 n0 n1 n2 ms sv pv names fs rx rav rargs R) (hb : Below w.heap.size w w') : SigSt L B b acc w' p t0 t1 t2 n0 n1 n2 ms sv pv names fs rx rav rargs R :=
  ⟨h.env.below hb, h.fl.below hb, h.ra.below hb, (hb.block _ (Array.getElem?_eq_some_iff.1 h.r4).1).trans h.r4, (hb.block _ (Array.getElem?_eq_some_iff.1 h.r6).1).trans h.r6⟩
theorem SigSt.wrote (h : SigSt L B b acc w p t0 t1 t2 n0 n1 n2 ms sv pv names fs rx rav rargs R) (hf : Fr B b w w') (hbd : Bd B b acc' w') : SigSt L B b acc' w' p t0 t1 t2 n0 n1 n2 ms sv pv names fs rx rav rargs R :=
  ⟨h.env.wrote hf hbd, h.fl.fr h.env.bd hf, h.ra.fr h.env.bd hf, hf.row h.env.bd h.r4 (by decide) (by decide), hf.row h.env.bd h.r6 (by decide) (by decide)⟩
theorem SigSt.scope (h : SigSt L B b acc w p t0 t1 t2 n0 n1 n2 ms sv pv names fs rx rav rargs R) (hs : Scope w sv' names) : SigSt L B b acc w p t0 t1 t2 n0 n1 n2 ms sv' pv names fs rx rav rargs R :=
  ⟨⟨h.env.num, hs, h.env.bd, h.env.tab, h.env.hL, h.env.hB, h.env.f0, h.env.f1, h.env.f2⟩, h.fl, h.ra, h.r4, h.r6⟩
end

def sigText (t0 t1 t2 : Int) (names : List ByteArray) (fs : List (ByteArray × List ByteArray)) (rx : ByteArray) (rargs : List ByteArray) : ByteArray :=
  ⟨#[60]⟩ ++ ⟨#[62]⟩ ++ ⟨#[40]⟩ ++ semis (fs.map fun q => tyText t0 t1 t2 names q.1 q.2) ++ ⟨#[41]⟩ ++ tyText t0 t1 t2 names rx rargs

set_option maxRecDepth 100000 in
set_option maxHeartbeats 1000000 in
theorem sig_any (L B b : Nat) (acc : ByteArray) (w : World) (p : NBlk) (t0 t1 t2 n0 n1 n2 : Int) (ms sv pv : Value) (names : List ByteArray) (fs : List (ByteArray × List ByteArray)) (rx : ByteArray) (rav : Value) (rargs : List ByteArray) (hcat : Cat names) (hfl : FldRow w pv fs) (hra : TyArgs w rav rargs) (hg : ∀ q ∈ fs, TyGood names q.1 q.2) (hgr : TyGood names rx rargs) (h : Env L B b acc w p t0 t1 t2 n0 n1 n2 ms sv names) (hn : names.length ≤ 100) (hl : fs.length ≤ 300) (hsz : acc.size ≤ 700000000000) :
    Calls Ybad.prog 42 #[p.val, .pointer (some ⟨b, 0, none⟩), sigV pv rx rav, sv] w fun e w' => ∃ sv', e = .returned sv' ∧ Scope w' sv' names ∧ Bd B b (acc ++ sigText t0 t1 t2 names fs rx rargs) w' ∧ Fr B b w w' := by
  have hbx := two_below w (Obj.cells #[Value.pointer (some { block := p.sh, off := 0 }), Value.slice (some { block := p.tb, off := 0 }) 3 3, Value.slice (some { block := p.nb, off := 0 }) 3 3] 75) (Obj.cells #[Value.slice none 0 0, pv, Value.int IntKind.i64 0, Value.int IntKind.i64 0, Value.string rx, rav] 53)
  obtain ⟨hr4, hr6⟩ := two_rows w (Obj.cells #[Value.pointer (some { block := p.sh, off := 0 }), Value.slice (some { block := p.tb, off := 0 }) 3 3, Value.slice (some { block := p.nb, off := 0 }) 3 3] 75) (Obj.cells #[Value.slice none 0 0, pv, Value.int IntKind.i64 0, Value.int IntKind.i64 0, Value.string rx, rav] 53)
  have HS0 : Hid (SigSt L B b acc _ p t0 t1 t2 n0 n1 n2 ms sv pv names fs rx rav rargs w.heap.size) := ⟨h.below hbx, hfl.below hbx, hra.below hbx, hr4, hr6⟩
  have HFX : Hid (Fr B b w _) := Fr.of hbx h.hB
  have hT0 := h.f0
  have hT1 := h.f1
  have hT2 := h.f2
  obtain ⟨pa, pc, rfl, _⟩ := id hfl
  obtain ⟨ra, rc, rfl, _⟩ := id hra
  obtain ⟨sa, scc, rfl, _⟩ := id h.sc
  have HCAT : Hid (Cat names) := hcat
  clear hbx hr4 hr6 h hfl hra hcat
  unfold NBlk.val sigV
  go_enter Ybad.func42, Ybad.ntmps42
  go_wp2_with fail
  generalize (w.alloc (Obj.cells #[Value.pointer (some { block := p.sh, off := 0 }), Value.slice (some { block := p.tb, off := 0 }) 3 3, Value.slice (some { block := p.nb, off := 0 }) 3 3] 75)).alloc (Obj.cells #[Value.slice none 0 0, Value.slice pa fs.length pc, Value.int IntKind.i64 0, Value.int IntKind.i64 0, Value.string rx, Value.slice ra rargs.length rc] 53) = X at *
  generalize hR : w.heap.size = R at *
  refine (pnames_any X (.slice none 0 0) [] ⟨none, 0, rfl, fun h => by simp at h⟩ (by simp)).mono ?_
  rintro e w1 ⟨s1, rfl, hs1, hb1⟩
  obtain ⟨a1, c1, rfl, _⟩ := hs1
  have hS1 := HS0.out.below hb1
  have hF1 := HFX.out.trans (Fr.of hb1 HS0.out.env.hB)
  have HS1 : Hid (SigSt L B b acc w1 p t0 t1 t2 n0 n1 n2 ms (.slice sa names.length scc) (.slice pa fs.length pc) names fs rx (.slice ra rargs.length rc) rargs R) := hS1
  have HF1 : Hid (Fr B b w w1) := hF1
  clear HS0 HFX hb1 hS1 hF1
  go_wp2_with fail
  have hby := (Below.refl _ w1).alloc (Nat.le_refl _) (Obj.cells #[Value.slice sa names.length scc, Value.slice a1 0 c1] 51)
  refine (HCAT.out _ w1.heap.size (.slice sa names.length scc) a1 c1 (HS1.out.env.sc.below hby) (heap_alloc_newD _ _)).mono ?_
  rintro e w2 ⟨sv2, rfl, hsc2, hb2⟩
  have hS2 := ((HS1.out.below hby).below hb2).scope hsc2
  have hF2 := (HF1.out.trans (Fr.of hby HS1.out.env.hB)).trans (Fr.of hb2 (HS1.out.below hby).env.hB)
  have HS2 : Hid (SigSt L B b acc w2 p t0 t1 t2 n0 n1 n2 ms sv2 (.slice pa fs.length pc) names fs rx (.slice ra rargs.length rc) rargs R) := hS2
  have HF2 : Hid (Fr B b w w2) := hF2
  have b0 := cell_row (j := 0) hS2.r4 rfl
  have b1 := cell_row (j := 1) hS2.r4 rfl
  have b2 := cell_row (j := 2) hS2.r4 rfl
  have d0 := cell_row (j := 0) hS2.r6 rfl
  clear hby HS1 HF1 hb2 hS2 hF2 hsc2 HCAT
  go_wp2_with fail
  refine (params_any L B b acc w2 p t0 t1 t2 n0 n1 n2 ms sv2 (.slice none 0 0) names [] ⟨none, 0, rfl, fun h => by simp at h⟩ (by simp) HS2.out.env hn (by simp) (by omega)).mono ?_
  rintro e w3 ⟨rfl, hbd3, hf3⟩
  have hS3 := HS2.out.wrote hf3 hbd3
  have hF3 := HF2.out.trans hf3
  have HS3 : Hid (SigSt L B b (acc ++ ⟨#[60]⟩ ++ semis [] ++ ⟨#[62]⟩) w3 p t0 t1 t2 n0 n1 n2 ms sv2 (.slice pa fs.length pc) names fs rx (.slice ra rargs.length rc) rargs R) := hS3
  have HF3 : Hid (Fr B b w w3) := hF3
  have hs60 : (⟨#[60]⟩ : ByteArray).size = 1 := rfl
  have hs62 : (⟨#[62]⟩ : ByteArray).size = 1 := rfl
  have hA3 : (acc ++ ⟨#[60]⟩ ++ semis [] ++ ⟨#[62]⟩).size ≤ 700000000002 := by
    rw [ByteArray.size_append, ByteArray.size_append, ByteArray.size_append, hs60, hs62]
    have : (semis []).size = 0 := rfl
    omega
  clear b0 b1 b2 d0 HS2 HF2 hbd3 hf3 hS3 hF3
  generalize hac : acc ++ ⟨#[60]⟩ ++ semis [] ++ ⟨#[62]⟩ = acc3 at *
  have HAC : Hid (acc ++ ⟨#[60]⟩ ++ semis [] ++ ⟨#[62]⟩ = acc3) := hac
  clear hac
  have hs40 : (⟨#[40]⟩ : ByteArray).size = 1 := rfl
  go_wp2_with fail
  refine (write_any B b acc3 ⟨#[40]⟩ w3 HS3.out.env.bd (by rw [hs40]; omega) HS3.out.env.hB).mono ?_
  rintro e w4 ⟨rfl, hbd4, hf4⟩
  have hS4 := HS3.out.wrote hf4 hbd4
  have HS4 : Hid (SigSt L B b (acc3 ++ ⟨#[40]⟩) w4 p t0 t1 t2 n0 n1 n2 ms sv2 (.slice pa fs.length pc) names fs rx (.slice ra rargs.length rc) rargs R) := hS4
  have HF4 : Hid (Fr B b w w4) := HF3.out.trans hf4
  have d1 := cell_row (j := 1) hS4.r6 rfl
  have hA4 : (acc3 ++ ⟨#[40]⟩).size ≤ 700000000003 := by rw [ByteArray.size_append, hs40]; omega
  clear HS3 HF3 hbd4 hf4 hS4
  generalize hac : acc3 ++ ⟨#[40]⟩ = acc4 at *
  have HAC4 : Hid (acc3 ++ ⟨#[40]⟩ = acc4) := hac
  clear hac
  go_wp2_with fail
  go_loopw [29] (fun i wr => ∃ j : Nat, j ≤ fs.length ∧ i = .int .i64 j ∧ SigSt L B b (acc4 ++ semis ((fs.map fun q => tyText t0 t1 t2 names q.1 q.2).take j)) wr p t0 t1 t2 n0 n1 n2 ms sv2 (.slice pa fs.length pc) names fs rx (.slice ra rargs.length rc) rargs R ∧ Fr B b w wr) (fun i _ => fs.length - (intOf i).toNat)
  case atStart => exact ⟨0, Nat.zero_le _, rfl, by simpa [semis] using HS4.out, HF4.out⟩
  case round =>
    obtain ⟨j, hj, rfl, hS, hF⟩ := hrel
    clear HS4 HF4 d1
    have hssz := semis_size (fs.map fun q => tyText t0 t1 t2 names q.1 q.2) 7000 (fun a ha => by
      rw [List.mem_map] at ha
      obtain ⟨q, hq, rfl⟩ := ha
      exact tyText_size hT0 hT1 hT2 names hn q.1 q.2 (hg q hq).2.2.2) j
    have hasz : (acc4 ++ semis ((fs.map fun q => tyText t0 t1 t2 names q.1 q.2).take j)).size ≤ 700100000000 := by rw [ByteArray.size_append]; omega
    by_cases hlt : j < fs.length
    · obtain ⟨a', c', he, hta⟩ := id hS.fl
      simp only [Value.slice.injEq, true_and] at he
      obtain ⟨rfl, rfl⟩ := he
      obtain ⟨g, cur, rfl, hgrr, hcur⟩ := hta (by omega)
      obtain ⟨k0, k1, k2, k3, k4, k5, av, k6, hav⟩ := hcur j hlt
      obtain ⟨va, vc, rfl, _⟩ := id hav
      have c0 := cell_row (j := j * 7) hgrr k0
      have c1 := cell_row (j := j * 7 + 1) hgrr k1
      have c2 := cell_row (j := j * 7 + 2) hgrr k2
      have c3 := cell_row (j := j * 7 + 3) hgrr k3
      have c4 := cell_row (j := j * 7 + 4) hgrr k4
      have c5 := cell_row (j := j * 7 + 5) hgrr k5
      have c6 := cell_row (j := j * 7 + 6) hgrr k6
      have b0 := cell_row (j := 0) hS.r4 rfl
      have b1 := cell_row (j := 1) hS.r4 rfl
      have b2 := cell_row (j := 2) hS.r4 rfl
      have hRlt : R < wr.heap.size := (Array.getElem?_eq_some_iff.1 hS.r4).1
      have hgj : TyGood names fs[j].1 fs[j].2 := hg _ (List.getElem_mem hlt)
      have HSN : Hid (semis ((fs.map fun q => tyText t0 t1 t2 names q.1 q.2).take (j + 1)) = semis ((fs.map fun q => tyText t0 t1 t2 names q.1 q.2).take j) ++ tyText t0 t1 t2 names fs[j].1 fs[j].2 ++ ⟨#[59]⟩) := by
        show _ = _
        rw [List.take_succ_eq_append_getElem (by simpa using hlt), semis_snoc]
        simp
      have htsz := tyText_size hT0 hT1 hT2 names hn fs[j].1 fs[j].2 hgj.2.2.2
      have HST : Hid (∀ o, SigSt L B b (acc4 ++ semis ((fs.map fun q => tyText t0 t1 t2 names q.1 q.2).take j)) (wr.alloc o) p t0 t1 t2 n0 n1 n2 ms sv2 (.slice (some ⟨g, 0, none⟩) fs.length pc) names fs rx (.slice ra rargs.length rc) rargs R ∧ Fr B b w (wr.alloc o) ∧ TyArgs (wr.alloc o) (.slice va fs[j].2.length vc) fs[j].2) := fun o => by
        have hbo := (Below.refl _ wr).alloc (Nat.le_refl _) o
        exact ⟨hS.below hbo, hF.trans (Fr.of hbo hS.env.hB), hav.below hbo⟩
      clear hS hF hgrr hcur k0 k1 k2 k3 k4 k5 k6 hta hav
      generalize fs[j].1 = xj at *
      generalize fs[j].2 = aj at *
      go_wp2_with fail
      obtain ⟨hS, hF, hta⟩ := HST.out (Obj.cells #[Value.int IntKind.i64 0, Value.int IntKind.i64 0, Value.string ⟨#[]⟩, Value.int IntKind.i64 0, Value.int IntKind.i64 0, Value.string xj, Value.slice va aj.length vc] 49)
      have hcl := typ_any L B b _ xj _ p t0 t1 t2 n0 n1 n2 ms sv2 (.slice va aj.length vc) names aj hta hgj hS.env hn (by omega)
      refine hcl.mono ?_
      rintro e w5 ⟨rfl, hbd5, hf5⟩
      have hS5 := hS.wrote hf5 hbd5
      have hF5 := hF.trans hf5
      clear hcl hS hF hta HST hbd5 hf5
      have hs59 : (⟨#[59]⟩ : ByteArray).size = 1 := rfl
      go_wp2_with fail
      refine (write_any B b _ ⟨#[59]⟩ w5 hS5.env.bd (by rw [ByteArray.size_append, hs59]; omega) hS5.env.hB).mono ?_
      rintro e w6 ⟨rfl, hbd6, hf6⟩
      have hS6 := hS5.wrote hf6 hbd6
      go_wp2_with fail
      go_roundw
      case rel => exact ⟨j + 1, by omega, by go_num, by rw [HSN.out]; simpa [ByteArray.append_assoc] using hS6, hF5.trans hf6⟩
      case measure => simp [intOf]; omega
    · obtain rfl : j = fs.length := by omega
      have e : (fs.map fun q => tyText t0 t1 t2 names q.1 q.2).take fs.length = fs.map fun q => tyText t0 t1 t2 names q.1 q.2 := List.take_of_length_le (by simp)
      rw [e] at hS hasz
      have HS : Hid (SigSt L B b (acc4 ++ semis (fs.map fun q => tyText t0 t1 t2 names q.1 q.2)) wr p t0 t1 t2 n0 n1 n2 ms sv2 (.slice pa fs.length pc) names fs rx (.slice ra rargs.length rc) rargs R) := hS
      clear hS
      have hs41 : (⟨#[41]⟩ : ByteArray).size = 1 := rfl
      go_wp2_with fail
      refine (write_any B b _ ⟨#[41]⟩ wr HS.out.env.bd (by rw [hs41]; omega) HS.out.env.hB).mono ?_
      rintro e w5 ⟨rfl, hbd5, hf5⟩
      have hS5 := HS.out.wrote hf5 hbd5
      have HS5 : Hid (SigSt L B b (acc4 ++ semis (fs.map fun q => tyText t0 t1 t2 names q.1 q.2) ++ ⟨#[41]⟩) w5 p t0 t1 t2 n0 n1 n2 ms sv2 (.slice pa fs.length pc) names fs rx (.slice ra rargs.length rc) rargs R) := hS5
      have HF5 : Hid (Fr B b w w5) := hF.trans hf5
      have b0 := cell_row (j := 0) hS5.r4 rfl
      have b1 := cell_row (j := 1) hS5.r4 rfl
      have b2 := cell_row (j := 2) hS5.r4 rfl
      have d2 := cell_row (j := 2) hS5.r6 rfl
      have d3 := cell_row (j := 3) hS5.r6 rfl
      have d4 := cell_row (j := 4) hS5.r6 rfl
      have d5 := cell_row (j := 5) hS5.r6 rfl
      clear HS hbd5 hf5 hS5 hF
      go_wp2_with fail
      refine (typ_any L B b _ rx w5 p t0 t1 t2 n0 n1 n2 ms sv2 (.slice ra rargs.length rc) names rargs HS5.out.ra hgr HS5.out.env hn (by rw [ByteArray.size_append, hs41]; omega)).mono ?_
      rintro e w6 ⟨rfl, hbd6, hf6⟩
      have hsc6 := HS5.out.env.sc.fr HS5.out.env.bd hf6
      go_wp2_with fail
      go_ret
      refine ⟨sv2, rfl, hsc6, ?_, HF5.out.trans hf6⟩
      have hsm : semis [] = ByteArray.empty := rfl
      rw [← HAC4.out, ← HAC.out, hsm] at hbd6
      unfold sigText
      simpa [ByteArray.append_assoc] using hbd6
end Go.Proofs.YbulkbmowDoor
