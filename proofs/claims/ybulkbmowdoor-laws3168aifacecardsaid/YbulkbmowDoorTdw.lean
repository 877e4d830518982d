/-
  numbering.typeDecl at a struct, walked.
-/
import Derived.Test.YbulkbmowDoorTd
namespace Go.Proofs.YbulkbmowDoor
open Go.RowKit Go

set_option maxRecDepth 100000 in
set_option maxHeartbeats 1000000 in
theorem td_struct (L : Nat) (w : World) (p : NBlk) (t0 t1 t2 n0 n1 n2 : Int) (TR D MS i tc : Nat) (dn : ByteArray) (pv fv dv : Value) (ps : List (ByteArray × ByteArray)) (fs : List (ByteArray × List ByteArray)) (mts : List MD) (hi : i < 3) (hN : NumOK w p t0 t1 t2 n0 n1 n2 (.slice (some ⟨MS, 0, none⟩) 3 3)) (ht : Tab L w) (hL : L ≤ w.heap.size) (f0 : Fits t0) (f1 : Fits t1) (f2 : Fits t2) (g0 : Fits n0) (g1 : Fits n1) (g2 : Fits n2)
    (hd : DeclSt w p.F TR D MS i tc dn pv fv dv ps fs mts) (hps : ps.length ≤ 100) (hpg : ∀ q ∈ ps, OkName (ps.map (·.1)) q.2) (hfg : ∀ q ∈ fs, TyGood (ps.map (·.1)) q.1 q.2) (hfl : fs.length ≤ 300) (hmg : ∀ m ∈ mts, m.Good) (hml : mts.length ≤ 300) :
    Calls Ybad.prog 11 #[p.val, .int .i64 i] w fun e w' => e = .returned (.string (structText t0 t1 t2 n0 n1 n2 ps fs mts)) ∧ Below w.heap.size w w' := by
  obtain ⟨i9, hi9, hz9, hs9, hb9⟩ := info_parts info9
  have hta := assert31
  have s0 := cell_row (j := 0) hN.sh rfl
  have hsh : p.sh < w.heap.size := (Array.getElem?_eq_some_iff.1 hN.sh).1
  have pg0 := cell_row (j := 0) hN.pg rfl
  have hpgl : p.pg < w.heap.size := (Array.getElem?_eq_some_iff.1 hN.pg).1
  have y3 := cell_row (j := 3) hd.f rfl
  have hFl : p.F < w.heap.size := (Array.getElem?_eq_some_iff.1 hd.f).1
  obtain ⟨trc, htr, htri⟩ := hd.tr
  have ti := cell_row (j := i) htr htri
  have hTR : TR < w.heap.size := (Array.getElem?_eq_some_iff.1 htr).1
  have hDl : D < w.heap.size := (Array.getElem?_eq_some_iff.1 hd.d).1
  have d3 := cell_row (j := 3) hd.d rfl
  obtain ⟨pa, pc, rfl, _⟩ := id hd.pr
  obtain ⟨fa, fc, rfl, _⟩ := id hd.fl
  obtain ⟨da, dc, rfl, _⟩ := id hd.me
  have i0 : (0 : Int) ≤ (i : Int) := by omega
  have i1 : (i : Int) < 3 := by omega
  have hbx := two_below w (Obj.cells #[Value.pointer (some { block := p.sh, off := 0 }), Value.slice (some { block := p.tb, off := 0 }) 3 3, Value.slice (some { block := p.nb, off := 0 }) 3 3] 75) (Obj.cells #[Value.pointer none, Value.slice none 0 0] 101)
  obtain ⟨hr2, _⟩ := two_rows w (Obj.cells #[Value.pointer (some { block := p.sh, off := 0 }), Value.slice (some { block := p.tb, off := 0 }) 3 3, Value.slice (some { block := p.nb, off := 0 }) 3 3] 75) (Obj.cells #[Value.pointer none, Value.slice none 0 0] 101)
  have hbd0 : Bd (w.heap.size + 1) (w.heap.size + 1) ByteArray.empty ((w.alloc (Obj.cells #[Value.pointer (some { block := p.sh, off := 0 }), Value.slice (some { block := p.tb, off := 0 }) 3 3, Value.slice (some { block := p.nb, off := 0 }) 3 3] 75)).alloc (Obj.cells #[Value.pointer none, Value.slice none 0 0] 101)) := by
    have h := bd_new (w.alloc (Obj.cells #[Value.pointer (some { block := p.sh, off := 0 }), Value.slice (some { block := p.tb, off := 0 }) 3 3, Value.slice (some { block := p.nb, off := 0 }) 3 3] 75))
    simpa using h
  have HS0 : Hid (TdSt L (w.heap.size + 1) (w.heap.size + 1) ByteArray.empty _ p t0 t1 t2 n0 n1 n2 (.slice none 0 0) [] w.heap.size TR D MS i tc dn (.slice pa ps.length pc) (.slice fa fs.length fc) (.slice da mts.length dc) ps fs mts) :=
    ⟨⟨hN.below hbx, ⟨none, 0, rfl, fun h => by simp at h⟩, hbd0, ht.below hbx hL, by omega, by simp, f0, f1, f2⟩, hr2, hd.keeps fun _ _ _ _ => Keeps.below hbx⟩
  have HB0 : Hid (Below w.heap.size w _) := hbx
  have HPG : Hid (∀ q ∈ ps, OkName (ps.map (·.1)) q.2) := hpg
  have HFG : Hid (∀ q ∈ fs, TyGood (ps.map (·.1)) q.1 q.2) := hfg
  have HMG : Hid (∀ m ∈ mts, m.Good) := hmg
  have hnl : (ps.map (·.1)).length ≤ 100 := by simpa using hps
  clear hbx hr2 hbd0 hN hd htr htri ht hpg hfg hmg
  unfold NBlk.val
  go_enter Ybad.func11, Ybad.ntmps11
  go_wp2_with fail
  generalize (w.alloc (Obj.cells #[Value.pointer (some { block := p.sh, off := 0 }), Value.slice (some { block := p.tb, off := 0 }) 3 3, Value.slice (some { block := p.nb, off := 0 }) 3 3] 75)).alloc (Obj.cells #[Value.pointer none, Value.slice none 0 0] 101) = X at *
  generalize hR : w.heap.size = R at *
  refine (pnames_any X _ ps HS0.out.dc.pr hps).mono ?_
  rintro e w1 ⟨s1, rfl, hsc1, hb1⟩
  have hS1 := (HS0.out.below hb1).scope hsc1
  have hB1 : Below R w w1 := HB0.out.trans (hb1.mono (by have := HB0.out.size; omega))
  have HS1 : Hid (TdSt L (R + 1) (R + 1) ByteArray.empty w1 p t0 t1 t2 n0 n1 n2 s1 (ps.map (·.1)) R TR D MS i tc dn (.slice pa ps.length pc) (.slice fa fs.length fc) (.slice da mts.length dc) ps fs mts) := hS1
  have HB1 : Hid (Below R w w1) := hB1
  clear HS0 HB0 hsc1 hb1 hS1 hB1 s0 pg0 y3 ti d3
  go_wp2_with fail
  have hs83 : (⟨#[83]⟩ : ByteArray).size = 1 := rfl
  have he0 : ByteArray.empty.size = 0 := rfl
  refine (write_any (R + 1) (R + 1) ByteArray.empty ⟨#[83]⟩ w1 HS1.out.env.bd (by omega) HS1.out.env.hB).mono ?_
  rintro e w2 ⟨rfl, hbd2, hf2⟩
  have hS2 := HS1.out.wrote hf2 hbd2
  have HS2 : Hid (TdSt L (R + 1) (R + 1) (ByteArray.empty ++ ⟨#[83]⟩) w2 p t0 t1 t2 n0 n1 n2 s1 (ps.map (·.1)) R TR D MS i tc dn (.slice pa ps.length pc) (.slice fa fs.length fc) (.slice da mts.length dc) ps fs mts) := hS2
  have HB2 : Hid (Below R w w2) := HB1.out.trans (hf2.bel.mono (by omega))
  have hA2 : (ByteArray.empty ++ ⟨#[83]⟩).size ≤ 1 := by rw [ByteArray.size_append]; omega
  generalize hac : ByteArray.empty ++ ⟨#[83]⟩ = acc2 at *
  have HAC2 : Hid (ByteArray.empty ++ ⟨#[83]⟩ = acc2) := hac
  have r0 := cell_row (j := 0) hS2.r rfl
  have r1 := cell_row (j := 1) hS2.r rfl
  have r2 := cell_row (j := 2) hS2.r rfl
  have d3 := cell_row (j := 3) hS2.dc.d rfl
  have HPA : Hid (∀ N, Calls Ybad.prog 19 #[.agg #[Value.pointer (some { block := p.sh, off := 0 }), Value.slice (some { block := p.tb, off := 0 }) 3 3, Value.slice (some { block := p.nb, off := 0 }) 3 3], .pointer (some ⟨R + 1, 0, none⟩), .slice pa ps.length pc, s1] (w2.drewN N) fun e w3 => e = .returned (.tuple #[]) ∧ TdSt L (R + 1) (R + 1) (acc2 ++ ⟨#[60]⟩ ++ semis (ps.map fun q => leaf t0 t1 t2 (ps.map (·.1)) q.2) ++ ⟨#[62]⟩) w3 p t0 t1 t2 n0 n1 n2 s1 (ps.map (·.1)) R TR D MS i tc dn (.slice pa ps.length pc) (.slice fa fs.length fc) (.slice da mts.length dc) ps fs mts ∧ Below R w w3 ∧ w3.cell? ⟨R, 0, none⟩ = some (.pointer (some ⟨p.sh, 0, none⟩)) ∧ w3.cell? ⟨R, 1, none⟩ = some (.slice (some ⟨p.tb, 0, none⟩) 3 3) ∧ w3.cell? ⟨R, 2, none⟩ = some (.slice (some ⟨p.nb, 0, none⟩) 3 3) ∧ w3.cell? ⟨D, 3, none⟩ = some (.slice pa ps.length pc)) := fun N => by
    have hb0 : Below w2.heap.size w2 (w2.drewN N) := ⟨rfl, rfl, rfl, Nat.le_refl _, fun _ _ => rfl⟩
    have hE := HS2.out.below hb0
    refine (params_any L (R + 1) (R + 1) acc2 (w2.drewN N) p t0 t1 t2 n0 n1 n2 _ s1 (.slice pa ps.length pc) (ps.map (·.1)) ps hE.dc.pr HPG.out hE.env hnl hps (by omega)).mono ?_
    rintro e w3 ⟨rfl, hbd3, hf3⟩
    have hS3 := hE.wrote hf3 hbd3
    exact ⟨rfl, hS3, (HB2.out.trans (hb0.mono (by have := HB2.out.size; omega))).trans (hf3.bel.mono (by omega)), cell_row (j := 0) hS3.r rfl, cell_row (j := 1) hS3.r rfl, cell_row (j := 2) hS3.r rfl, cell_row (j := 3) hS3.dc.d rfl⟩
  clear hac HS1 HB1 hbd2 hf2 hS2
  go_wp2_with fail
  go_region_held3 (fun w' => w'.cell? ⟨R, 0, none⟩ = some (.pointer (some ⟨p.sh, 0, none⟩)) ∧ w'.cell? ⟨R, 1, none⟩ = some (.slice (some ⟨p.tb, 0, none⟩) 3 3) ∧ w'.cell? ⟨R, 2, none⟩ = some (.slice (some ⟨p.nb, 0, none⟩) 3 3) ∧ w'.cell? ⟨D, 3, none⟩ = some (.slice pa ps.length pc)) (go_keep) ((go_at_call 19; refine (HPA.out 1).mono ?_; rintro e w3 ⟨rfl, hS3, hB3, z0, z1, z2, z3⟩))
  have hT0 : (semis (ps.map fun q => leaf t0 t1 t2 (ps.map (·.1)) q.2)).size ≤ 100 * 23 := by
    have h := semis_size (ps.map fun q => leaf t0 t1 t2 (ps.map (·.1)) q.2) 22 (fun a ha => by
      rw [List.mem_map] at ha
      obtain ⟨q, _, rfl⟩ := ha
      exact leaf_size f0 f1 f2 _ hnl q.2) ps.length
    rw [List.take_of_length_le (by simp)] at h
    omega
  have hA3 : (acc2 ++ ⟨#[60]⟩ ++ semis (ps.map fun q => leaf t0 t1 t2 (ps.map (·.1)) q.2) ++ ⟨#[62]⟩).size ≤ 3000 := by
    simp only [ByteArray.size_append]
    have s1 : (⟨#[60]⟩ : ByteArray).size = 1 := rfl
    have s2 : (⟨#[62]⟩ : ByteArray).size = 1 := rfl
    omega
  generalize hac : acc2 ++ ⟨#[60]⟩ ++ semis (ps.map fun q => leaf t0 t1 t2 (ps.map (·.1)) q.2) ++ ⟨#[62]⟩ = acc3 at *
  have HAC3 : Hid (acc2 ++ ⟨#[60]⟩ ++ semis (ps.map fun q => leaf t0 t1 t2 (ps.map (·.1)) q.2) ++ ⟨#[62]⟩ = acc3) := hac
  have HS3 : Hid (TdSt L (R + 1) (R + 1) acc3 w3 p t0 t1 t2 n0 n1 n2 s1 (ps.map (·.1)) R TR D MS i tc dn (.slice pa ps.length pc) (.slice fa fs.length fc) (.slice da mts.length dc) ps fs mts) := hS3
  have HB3 : Hid (Below R w w3) := hB3
  clear hac HPA HS2 HB2 r0 r1 r2 d3 hS3 hB3 z0 z1 z2 z3
  go_wp2_with fail
  have hs123 : (⟨#[123]⟩ : ByteArray).size = 1 := rfl
  refine (write_any (R + 1) (R + 1) acc3 ⟨#[123]⟩ w3 HS3.out.env.bd (by omega) HS3.out.env.hB).mono ?_
  rintro e w4 ⟨rfl, hbd4, hf4⟩
  have hS4 := HS3.out.wrote hf4 hbd4
  have hA4 : (acc3 ++ ⟨#[123]⟩).size ≤ 3001 := by rw [ByteArray.size_append]; omega
  generalize hac : acc3 ++ ⟨#[123]⟩ = acc4 at *
  have HAC4 : Hid (acc3 ++ ⟨#[123]⟩ = acc4) := hac
  have HS4 : Hid (TdSt L (R + 1) (R + 1) (acc4) w4 p t0 t1 t2 n0 n1 n2 (s1) (ps.map (·.1)) R TR D MS i tc dn (.slice pa ps.length pc) (.slice fa fs.length fc) (.slice da mts.length dc) ps fs mts) := hS4
  have HB4 : Hid (Below R w w4) := HB3.out.trans (hf4.bel.mono (by omega))
  have d4 := cell_row (j := 4) hS4.dc.d rfl
  clear hac HS3 HB3 hbd4 hf4 hS4
  go_wp2_with fail
  go_loopw [59] (fun x wr => ∃ j : Nat, j ≤ fs.length ∧ x = .int .i64 j ∧ TdSt L (R + 1) (R + 1) (acc4 ++ semis ((fs.map fun q => tyText t0 t1 t2 (ps.map (·.1)) q.1 q.2).take j)) wr p t0 t1 t2 n0 n1 n2 (s1) (ps.map (·.1)) R TR D MS i tc dn (.slice pa ps.length pc) (.slice fa fs.length fc) (.slice da mts.length dc) ps fs mts ∧ Below R w wr) (fun x _ => fs.length - (intOf x).toNat)
  case atStart => exact ⟨0, Nat.zero_le _, rfl, by simpa [semis] using HS4.out, HB4.out⟩
  case round =>
    obtain ⟨j, hj, rfl, hS, hB⟩ := hrel
    clear HS4 HB4 d4
    have hssz := semis_size (fs.map fun q => tyText t0 t1 t2 (ps.map (·.1)) q.1 q.2) 7000 (fun a ha => by
      rw [List.mem_map] at ha
      obtain ⟨q, hq, rfl⟩ := ha
      exact tyText_size f0 f1 f2 _ hnl q.1 q.2 (HFG.out q hq).2.2.2) j
    have hasz : (acc4 ++ semis ((fs.map fun q => tyText t0 t1 t2 (ps.map (·.1)) q.1 q.2).take j)).size ≤ 3000000 := by rw [ByteArray.size_append]; omega
    by_cases hlt : j < fs.length
    · obtain ⟨a', c', he, hta'⟩ := id hS.dc.fl
      simp only [Value.slice.injEq, true_and] at he
      obtain ⟨rfl, rfl⟩ := he
      obtain ⟨g, cur, rfl, hgr, hcur⟩ := hta' (by omega)
      obtain ⟨k0, k1, k2, k3, k4, k5, av, k6, hav⟩ := hcur j hlt
      obtain ⟨va, vc, rfl, _⟩ := id hav
      have c0 := cell_row (j := j * 7) hgr k0
      have c1 := cell_row (j := j * 7 + 1) hgr k1
      have c2 := cell_row (j := j * 7 + 2) hgr k2
      have c3 := cell_row (j := j * 7 + 3) hgr k3
      have c4 := cell_row (j := j * 7 + 4) hgr k4
      have c5 := cell_row (j := j * 7 + 5) hgr k5
      have c6 := cell_row (j := j * 7 + 6) hgr k6
      have b0 := cell_row (j := 0) hS.r rfl
      have b1 := cell_row (j := 1) hS.r rfl
      have b2 := cell_row (j := 2) hS.r rfl
      have hRlt : R < wr.heap.size := (Array.getElem?_eq_some_iff.1 hS.r).1
      have hgj : TyGood (ps.map (·.1)) fs[j].1 fs[j].2 := HFG.out _ (List.getElem_mem hlt)
      have HSN : Hid (semis ((fs.map fun q => tyText t0 t1 t2 (ps.map (·.1)) q.1 q.2).take (j + 1)) = semis ((fs.map fun q => tyText t0 t1 t2 (ps.map (·.1)) q.1 q.2).take j) ++ tyText t0 t1 t2 (ps.map (·.1)) fs[j].1 fs[j].2 ++ ⟨#[59]⟩) := by
        show _ = _
        rw [List.take_succ_eq_append_getElem (by simpa using hlt), semis_snoc]
        simp
      have hlsz := tyText_size f0 f1 f2 (ps.map (·.1)) hnl fs[j].1 fs[j].2 hgj.2.2.2
      have HST : Hid (∀ o, TdSt L (R + 1) (R + 1) (acc4 ++ semis ((fs.map fun q => tyText t0 t1 t2 (ps.map (·.1)) q.1 q.2).take j)) (wr.alloc o) p t0 t1 t2 n0 n1 n2 (s1) (ps.map (·.1)) R TR D MS i tc dn (.slice pa ps.length pc) (.slice (some ⟨g, 0, none⟩) fs.length fc) (.slice da mts.length dc) ps fs mts ∧ Below R w (wr.alloc o) ∧ TyArgs (wr.alloc o) (.slice va fs[j].2.length vc) fs[j].2) := fun o => by
        have hbo := (Below.refl _ wr).alloc (Nat.le_refl _) o
        exact ⟨hS.below hbo, hB.trans (hbo.mono (by omega)), hav.below hbo⟩
      clear hS hB hgr hcur k0 k1 k2 k3 k4 k5 k6 hta' hav
      generalize fs[j].1 = xj at *
      generalize fs[j].2 = aj at *
      go_wp2_with fail
      obtain ⟨hS, hB, hav⟩ := HST.out (Obj.cells #[.int .i64 0, .int .i64 0, .string ⟨#[]⟩, .int .i64 0, .int .i64 0, .string xj, .slice va aj.length vc] 49)
      have hcl := typ_any L (R + 1) (R + 1) _ xj _ p t0 t1 t2 n0 n1 n2 _ s1 (.slice va aj.length vc) (ps.map (·.1)) aj hav hgj hS.env hnl (by omega)
      refine hcl.mono ?_
      rintro e w5 ⟨rfl, hbd5, hf5⟩
      have hS5 := hS.wrote hf5 hbd5
      have hB5 := hB.trans (hf5.bel.mono (Nat.le_succ R))
      clear hcl hS hB HST hbd5 hf5
      have hs59 : (⟨#[59]⟩ : ByteArray).size = 1 := rfl
      go_wp2_with fail
      refine (write_any (R + 1) (R + 1) _ ⟨#[59]⟩ w5 hS5.env.bd (by rw [ByteArray.size_append]; omega) hS5.env.hB).mono ?_
      rintro e w6 ⟨rfl, hbd6, hf6⟩
      have hS6 := hS5.wrote hf6 hbd6
      go_wp2_with fail
      go_roundw
      case rel => exact ⟨j + 1, by omega, by go_num, by rw [HSN.out]; simpa [ByteArray.append_assoc] using hS6, hB5.trans (hf6.bel.mono (Nat.le_succ R))⟩
      case measure => simp [intOf]; omega
    · obtain rfl : j = fs.length := by omega
      have e : (fs.map fun q => tyText t0 t1 t2 (ps.map (·.1)) q.1 q.2).take fs.length = (fs.map fun q => tyText t0 t1 t2 (ps.map (·.1)) q.1 q.2) := List.take_of_length_le (by simp)
      rw [e] at hS hasz
      have hs125 : (⟨#[125]⟩ : ByteArray).size = 1 := rfl
      have HSF : Hid (TdSt L (R + 1) (R + 1) (acc4 ++ semis (fs.map fun q => tyText t0 t1 t2 (ps.map (·.1)) q.1 q.2)) wr p t0 t1 t2 n0 n1 n2 (s1) (ps.map (·.1)) R TR D MS i tc dn (.slice pa ps.length pc) (.slice fa fs.length fc) (.slice da mts.length dc) ps fs mts) := hS
      have HBF : Hid (Below R w wr) := hB
      clear hS hB e
      generalize hac : acc4 ++ semis (fs.map fun q => tyText t0 t1 t2 (ps.map (·.1)) q.1 q.2) = acc5 at *
      have HAC5 : Hid (acc4 ++ semis (fs.map fun q => tyText t0 t1 t2 (ps.map (·.1)) q.1 q.2) = acc5) := hac
      clear hac
      go_wp2_with fail
      refine (write_any (R + 1) (R + 1) acc5 ⟨#[125]⟩ wr HSF.out.env.bd (by omega) HSF.out.env.hB).mono ?_
      rintro e w5 ⟨rfl, hbd5, hf5⟩
      have hS5 := HSF.out.wrote hf5 hbd5
      have hB5 := HBF.out.trans (hf5.bel.mono (Nat.le_succ R))
      have hA5 : (acc5 ++ ⟨#[125]⟩).size ≤ 3000001 := by rw [ByteArray.size_append]; omega
      generalize hac : acc5 ++ ⟨#[125]⟩ = acc6 at *
      have HAC6 : Hid (acc5 ++ ⟨#[125]⟩ = acc6) := hac
      have HS5 : Hid (TdSt L (R + 1) (R + 1) (acc6) w5 p t0 t1 t2 n0 n1 n2 (.slice none 0 0) [] R TR D MS i tc dn (.slice pa ps.length pc) (.slice fa fs.length fc) (.slice da mts.length dc) ps fs mts) := hS5.scope ⟨none, 0, rfl, fun h => by simp at h⟩
      have HB5 : Hid (Below R w w5) := hB5
      have r0 := cell_row (j := 0) hS5.r rfl
      have sh4 := cell_row (j := 4) hS5.env.num.sh rfl
      obtain ⟨mc, hmr, hmi⟩ := hS5.dc.mr
      have mi := cell_row (j := i) hmr hmi
      have hMl : MS < w5.heap.size := (Array.getElem?_eq_some_iff.1 hmr).1
      have hRl : R < w5.heap.size := (Array.getElem?_eq_some_iff.1 hS5.r).1
      have hRl1 : R + 1 ≤ w5.heap.size := hS5.env.hB
      have hshl : p.sh < w5.heap.size := (Array.getElem?_eq_some_iff.1 hS5.env.num.sh).1
      have hmk := fun w => run_make (P := Ybad.prog) w 51 9 i9 _ Ybad.underlying51 hi9 hz9 .i64 .i64 (mts.length : Int) (mts.length : Int) (by omega) (by omega) (by rw [hb9]; omega) (by omega)
      rw [hs9, Int.toNat_natCast] at hmk
      generalize hZ : madeCells (Value.string ⟨#[]⟩).cells (mts.length * 1) = Z at hmk
      have HZ : Hid (Z.size = mts.length) := by show _ = _; rw [← hZ, size_madeCells, Nat.mul_one]
      clear hac HSF HBF hbd5 hf5 hS5 hB5 hmr hmi hZ
      go_wp2_with fail
      have HST : Hid (TdSt L (R + 1) (R + 1) acc6 (w5.alloc (Obj.cells Z 9)) p t0 t1 t2 n0 n1 n2 (.slice none 0 0) [] R TR D MS i tc dn (.slice pa ps.length pc) (.slice fa fs.length fc) (.slice da mts.length dc) ps fs mts ∧ (w5.alloc (Obj.cells Z 9)).heap[w5.heap.size]? = some (.cells Z 9 (0, 0)) ∧ Below R w (w5.alloc (Obj.cells Z 9))) :=
        ⟨HS5.out.below ((Below.refl _ w5).alloc (Nat.le_refl _) _), heap_alloc_newD _ _, HB5.out.trans (((Below.refl _ w5).alloc (Nat.le_refl _) _).mono (by omega))⟩
      clear hmk HS5 HB5 r0 sh4 mi hMl hRl hshl
      generalize w5.alloc (Obj.cells Z 9) = W6 at *
      generalize hMB : w5.heap.size = MB at *
      go_loopw [90] (fun x wr => ∃ j : Nat, j ≤ mts.length ∧ x = .int .i64 j ∧ ∃ cur, wr.heap[MB]? = some (.cells cur 9 (0, 0)) ∧ cur.size = mts.length ∧ (∀ q (h : q < mts.length), q < j → cur[q]? = some (.string (mts[q].text t0 t1 t2 n0 n1 n2))) ∧ TdSt L (R + 1) (R + 1) (acc6) wr p t0 t1 t2 n0 n1 n2 (.slice none 0 0) [] R TR D MS i tc dn (.slice pa ps.length pc) (.slice fa fs.length fc) (.slice da mts.length dc) ps fs mts ∧ Below R w wr) (fun x _ => mts.length - (intOf x).toNat)
      case atStart => exact ⟨0, Nat.zero_le _, rfl, Z, HST.out.2.1, HZ.out, fun i _ h => absurd h (Nat.not_lt_zero _), HST.out.1, HST.out.2.2⟩
      case round =>
        obtain ⟨j, hj, rfl, cur, hmb, hcs, hdone, hS, hB⟩ := hrel
        clear HST
        by_cases hlt : j < mts.length
        · obtain ⟨a', c', he, hme⟩ := id hS.dc.me
          simp only [Value.slice.injEq, true_and] at he
          obtain ⟨rfl, rfl⟩ := he
          obtain ⟨g, gcur, rfl, hgr, hcur⟩ := hme (by omega)
          obtain ⟨M, hMc, mpv, mrav, V, hM1, hM2, hM3, hM4⟩ := hcur j hlt
          have cM := cell_row (j := j) hgr hMc
          have b0 := cell_row (j := 0) hS.r rfl
          have b1 := cell_row (j := 1) hS.r rfl
          have b2 := cell_row (j := 2) hS.r rfl
          have hG := HMG.out _ (List.getElem_mem hlt)
          have HCM : Hid (Calls Ybad.prog 21 _ wr _) := meth_any L M V mts[j].k wr p t0 t1 t2 n0 n1 n2 _ mpv mrav mts[j].fs mts[j].rx [] hG.k hS.env.num hS.env.tab (Nat.le_trans hS.env.hL hS.env.hB) f0 f1 f2 g0 g1 g2 hM1 hM2 hM3 hM4 hG.fs hG.rx hG.l
          have HSW : Hid (TdSt L (R + 1) (R + 1) (acc6) wr p t0 t1 t2 n0 n1 n2 (.slice none 0 0) [] R TR D MS i tc dn (.slice pa ps.length pc) (.slice fa fs.length fc) (.slice (some ⟨g, 0, none⟩) mts.length dc) ps fs mts) := hS
          have HBW : Hid (Below R w wr) := hB
          have HMB : Hid (wr.heap[MB]? = some (.cells cur 9 (0, 0))) := hmb
          have j0 : (0 : Int) ≤ (j : Int) := by omega
          have j1 : (j : Int) < (mts.length : Int) := by omega
          clear hS hB hmb hgr hcur hMc hM1 hM2 hM3 hM4 hme hG
          unfold NBlk.val at HCM
          go_wp2_with fail
          refine HCM.out.mono ?_
          rintro e w7 ⟨rfl, hb7⟩
          have hmb7 := Keeps.below hb7 _ _ HMB.out
          have hS7 := HSW.out.below hb7
          have xm := cell_row (j := j) hmb7 (Array.getElem?_eq_getElem (by omega))
          have xf : ∀ j, w7.frozen? ⟨MB, j, none⟩ = false := fun j => by simp [World.frozen?, hmb7]
          have hrow : Row9 w7 (some MB) := by rintro k ⟨⟩; exact ⟨_, hmb7⟩
          have hB7 : Below R w w7 := HBW.out.trans (hb7.mono (by have := HBW.out.size; omega))
          generalize hmt : ⟨#[109]⟩ ++ num (tn3 n0 n1 n2 mts[j].k) ++ ⟨#[45]⟩ ++ sigText t0 t1 t2 [] mts[j].fs mts[j].rx [] ++ ⟨#[61]⟩ ++ (⟨#[118]⟩ ++ num 0) = mtx at *
          have hset := set_grown w7 MB j (.string mtx)
          have HS8 : Hid (TdSt L (R + 1) (R + 1) (acc6) (w7.setCell ⟨MB, j, none⟩ (.string mtx)) p t0 t1 t2 n0 n1 n2 (.slice none 0 0) [] R TR D MS i tc dn (.slice pa ps.length pc) (.slice fa fs.length fc) (.slice (some ⟨g, 0, none⟩) mts.length dc) ps fs mts) := hS7.move (hrow.env hset hS7.env (by rintro k ⟨⟩; omega)) (fun t _ h9 _ => hrow.keeps hset t h9)
          have HB8 : Hid (Below R w (w7.setCell ⟨MB, j, none⟩ (.string mtx))) := hB7.setCell (by show R ≤ MB; omega) _
          have HM8 : Hid ((w7.setCell ⟨MB, j, none⟩ (.string mtx)).heap[MB]? = some (.cells (cur.setIfInBounds j (.string mtx)) 9 (0, 0))) := setCell_row w7 MB j cur 9 _ hmb7
          have HMT : Hid (mts[j].text t0 t1 t2 n0 n1 n2 = mtx) := hmt
          clear HCM HSW HBW HMB hb7 hmb7 hS7 hB7 hset hmt b0 b1 b2 cM
          go_wp2_with fail
          go_roundw
          case rel =>
            refine ⟨j + 1, by omega, by go_num, _, HM8.out, by simpa using hcs, fun q hq hqj => ?_, HS8.out, HB8.out⟩
            rw [Array.getElem?_setIfInBounds]
            by_cases hqe : j = q
            · subst hqe
              rw [if_pos rfl, if_pos (by omega), HMT.out]
            · rw [if_neg hqe]
              exact hdone q hq (by omega)
          case measure => simp [intOf]; omega
        · obtain rfl : j = mts.length := by omega
          have HSC : Hid (Scope wr (.slice (some ⟨MB, 0, none⟩) mts.length mts.length) (mts.map fun m => m.text t0 t1 t2 n0 n1 n2)) := ⟨some ⟨MB, 0, none⟩, mts.length, by rw [List.length_map], fun _ => ⟨MB, cur, rfl, hmb, fun q hq => by
            rw [List.length_map] at hq
            rw [hdone q hq hq, List.getElem_map]⟩⟩
          have HSM : Hid (TdSt L (R + 1) (R + 1) (acc6) wr p t0 t1 t2 n0 n1 n2 (.slice none 0 0) [] R TR D MS i tc dn (.slice pa ps.length pc) (.slice fa fs.length fc) (.slice da mts.length dc) ps fs mts) := hS
          have HBM : Hid (Below R w wr) := hB
          clear hS hB hmb hcs hdone
          go_wp2_with fail
          refine (sort_any wr _ (mts.map fun m => m.text t0 t1 t2 n0 n1 n2) HSC.out (by rw [List.length_map]; omega)).mono ?_
          rintro e w7 ⟨rfl, hsc7, row, hrow, hrl, hg7⟩
          have hrB : ∀ k, row = some k → R + 1 ≤ k := fun k hk => by
            obtain ⟨n', c', he⟩ := hrl k hk
            simp only [Value.slice.injEq, Option.some.injEq, Addr.mk.injEq] at he
            omega
          have hE7 := hrow.env hg7 HSM.out.env hrB
          have hB7 : Below R w w7 := HBM.out.trans ((Below.refl R wr).grown hg7 (by have := HBM.out.size; omega) (fun k hk => by have := hrB k hk; omega))
          have hsl : (sortB (mts.map fun m => m.text t0 t1 t2 n0 n1 n2)).length = mts.length := by rw [sortB_length, List.length_map]
          have hsz : ∀ a ∈ sortB (mts.map fun m => m.text t0 t1 t2 n0 n1 n2), a.size ≤ 3100000 := fun a ha => by
            have h := sortB_mem ha
            rw [List.mem_map] at h
            obtain ⟨m, hm, rfl⟩ := h
            exact MD.text_size f0 f1 f2 g0 g1 g2 m (HMG.out m hm)
          have HE7 : Hid (Env L (R + 1) (R + 1) acc6 w7 p t0 t1 t2 n0 n1 n2 (.slice (some ⟨MS, 0, none⟩) 3 3) (.slice none 0 0) []) := hE7
          have HB7 : Hid (Below R w w7) := hB7
          have HSC7 : Hid (Scope w7 (.slice (some ⟨MB, 0, none⟩) mts.length mts.length) (sortB (mts.map fun m => m.text t0 t1 t2 n0 n1 n2))) := hsc7
          have HTX : Hid (structText t0 t1 t2 n0 n1 n2 ps fs mts = acc6 ++ bars (sortB (mts.map fun m => m.text t0 t1 t2 n0 n1 n2))) := by
            show _ = _
            rw [← HAC6.out, ← HAC5.out, ← HAC4.out, ← HAC3.out, ← HAC2.out]
            unfold structText
            simp [ByteArray.append_assoc]
          clear HSC HSM HBM hsc7 hrow hrl hg7 hrB hE7 hB7
          generalize sortB (mts.map fun m => m.text t0 t1 t2 n0 n1 n2) = sl at *
          go_wp2_with fail
          go_loopw [106] (fun x wr => ∃ j : Nat, j ≤ mts.length ∧ x = .int .i64 j ∧ Env L (R + 1) (R + 1) (acc6 ++ bars (sl.take j)) wr p t0 t1 t2 n0 n1 n2 (.slice (some ⟨MS, 0, none⟩) 3 3) (.slice none 0 0) [] ∧ Scope wr (.slice (some ⟨MB, 0, none⟩) mts.length mts.length) sl ∧ Below R w wr) (fun x _ => mts.length - (intOf x).toNat)
          case atStart => exact ⟨0, Nat.zero_le _, rfl, by simpa [bars] using HE7.out, HSC7.out, HB7.out⟩
          case round =>
            obtain ⟨j, hj, rfl, hE, hsc, hB⟩ := hrel
            clear HE7 HSC7 HB7
            have hbz := bars_size sl 3100000 hsz j
            have hasz : (acc6 ++ bars (sl.take j)).size ≤ 2000000000 := by rw [ByteArray.size_append]; omega
            by_cases hlt : j < mts.length
            · obtain ⟨a', c', he, hrows⟩ := id hsc
              simp only [Value.slice.injEq] at he
              obtain ⟨rfl, hcyc, rfl⟩ := he
              clear hcyc
              obtain ⟨g, gcur, hgg, hgr, hcur⟩ := hrows (by omega)
              simp only [Option.some.injEq, Addr.mk.injEq, and_true] at hgg
              subst hgg
              have cj := cell_row (j := j) hgr (hcur j (by omega))
              have hjz := hsz _ (List.getElem_mem (show j < sl.length by omega))
              have HSN : Hid (bars (sl.take (j + 1)) = bars (sl.take j) ++ (⟨#[124]⟩ ++ sl[j])) := by
                show _ = _
                rw [List.take_succ_eq_append_getElem (by omega), bars_snoc]
              have HE : Hid (Env L (R + 1) (R + 1) (acc6 ++ bars (sl.take j)) wr p t0 t1 t2 n0 n1 n2 (.slice (some ⟨MS, 0, none⟩) 3 3) (.slice none 0 0) []) := hE
              have HSC : Hid (Scope wr (.slice (some ⟨MB, 0, none⟩) mts.length mts.length) sl) := hsc
              clear hE hsc hgr hcur hrows
              generalize sl[j] = sj at *
              have hs124 : (⟨#[124]⟩ : ByteArray).size = 1 := rfl
              have hsum : (⟨#[124]⟩ ++ sj).size ≤ 3100001 := by rw [ByteArray.size_append]; omega
              have HWR : Hid (Calls Ybad.prog 18 _ wr _) := write_any (R + 1) (R + 1) (acc6 ++ bars (sl.take j)) (⟨#[124]⟩ ++ sj) wr HE.out.bd (by omega) HE.out.hB
              go_wp2_with fail
              refine HWR.out.mono ?_
              rintro e w8 ⟨rfl, hbd8, hf8⟩
              have hE8 := HE.out.wrote hf8 hbd8
              have hsc8 := HSC.out.fr HE.out.bd hf8
              go_wp2_with fail
              go_roundw
              case rel => exact ⟨j + 1, by omega, by go_num, by rw [HSN.out]; simpa [ByteArray.append_assoc] using hE8, hsc8, hB.trans (hf8.bel.mono (Nat.le_succ R))⟩
              case measure => simp [intOf]; omega
            · obtain rfl : j = mts.length := by omega
              rw [List.take_of_length_le (by omega)] at hE hasz
              have HE : Hid (Env L (R + 1) (R + 1) (acc6 ++ bars sl) wr p t0 t1 t2 n0 n1 n2 (.slice (some ⟨MS, 0, none⟩) 3 3) (.slice none 0 0) []) := hE
              clear hE hsc
              go_wp2_with fail
              refine (string_any (R + 1) (R + 1) _ wr HE.out.bd HE.out.hB).mono ?_
              rintro e w8 ⟨rfl, _, hf8⟩
              go_wp2_with fail
              go_ret
              exact ⟨by rw [HTX.out]; rfl, by rw [hR]; exact hB.trans (hf8.bel.mono (Nat.le_succ R))⟩
end Go.Proofs.YbulkbmowDoor
