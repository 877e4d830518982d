/-
  numbering.typeDecl at an interface, walked.
-/
import Derived.Test.YbulkbmowDoorTi
import Derived.Test.YbulkbmowDoorCat2
namespace Go.Proofs.YbulkbmowDoor
open Go.RowKit Go

set_option maxRecDepth 100000 in
set_option maxHeartbeats 4000000 in
theorem td_iface (L : Nat) (w : World) (p : NBlk) (t0 t1 t2 n0 n1 n2 : Int) (TR D i tc : Nat) (dn : ByteArray) (msv pv mv ev : Value) (ps : List (ByteArray × ByteArray)) (ms : List MD) (es : List (ByteArray × List ByteArray)) (hi : i < 3) (hN : NumOK w p t0 t1 t2 n0 n1 n2 msv) (ht : Tab L w) (hL : L ≤ w.heap.size) (f0 : Fits t0) (f1 : Fits t1) (f2 : Fits t2) (g0 : Fits n0) (g1 : Fits n1) (g2 : Fits n2)
    (hd : IDecl w p.F TR D i tc dn pv mv ev ps ms es) (hps : ps.length ≤ 100) (hpg : ∀ q ∈ ps, OkName (ps.map (·.1)) q.2) (heg : ∀ q ∈ es, TyGood (ps.map (·.1)) q.1 q.2) (hel : es.length ≤ 300) (hmg : ∀ m ∈ ms, m.GoodIn (ps.map (·.1))) (hml : ms.length ≤ 300) :
    Calls Ybad.prog 11 #[p.val, .int .i64 i] w fun e w' => e = .returned (.string (ifaceText t0 t1 t2 n0 n1 n2 ps ms es)) ∧ Below w.heap.size w w' := by
  obtain ⟨i9, hi9, hz9, hs9, hb9⟩ := info_parts info9
  have hta := assert31_not
  have htb := assert78
  have s0 := cell_row (j := 0) hN.sh rfl
  have hsh : p.sh < w.heap.size := (Array.getElem?_eq_some_iff.1 hN.sh).1
  have pg0 := cell_row (j := 0) hN.pg rfl
  have hpgl : p.pg < w.heap.size := (Array.getElem?_eq_some_iff.1 hN.pg).1
  have y3 := cell_row (j := 3) hd.f rfl
  have hFl : p.F < w.heap.size := (Array.getElem?_eq_some_iff.1 hd.f).1
  obtain ⟨trc, htr, htri⟩ := hd.tr
  have ti := cell_row (j := i) htr htri
  have hTR : TR < w.heap.size := (Array.getElem?_eq_some_iff.1 htr).1
  have hDl : D < w.heap.size := (Array.getElem?_eq_some_iff.1 hd.d).1
  have d3 := cell_row (j := 3) hd.d rfl
  obtain ⟨pa, pc, rfl, _⟩ := id hd.pr
  obtain ⟨ma, mc, rfl, _⟩ := id hd.sp
  obtain ⟨ea, ec, rfl, _⟩ := id hd.em
  have i0 : (0 : Int) ≤ (i : Int) := by omega
  have i1 : (i : Int) < 3 := by omega
  have hbx := two_below w (Obj.cells #[Value.pointer (some { block := p.sh, off := 0 }), Value.slice (some { block := p.tb, off := 0 }) 3 3, Value.slice (some { block := p.nb, off := 0 }) 3 3] 75) (Obj.cells #[Value.pointer none, Value.slice none 0 0] 101)
  obtain ⟨hr2, _⟩ := two_rows w (Obj.cells #[Value.pointer (some { block := p.sh, off := 0 }), Value.slice (some { block := p.tb, off := 0 }) 3 3, Value.slice (some { block := p.nb, off := 0 }) 3 3] 75) (Obj.cells #[Value.pointer none, Value.slice none 0 0] 101)
  have hbd0 : Bd (w.heap.size + 1) (w.heap.size + 1) ByteArray.empty ((w.alloc (Obj.cells #[Value.pointer (some { block := p.sh, off := 0 }), Value.slice (some { block := p.tb, off := 0 }) 3 3, Value.slice (some { block := p.nb, off := 0 }) 3 3] 75)).alloc (Obj.cells #[Value.pointer none, Value.slice none 0 0] 101)) := by
    have h := bd_new (w.alloc (Obj.cells #[Value.pointer (some { block := p.sh, off := 0 }), Value.slice (some { block := p.tb, off := 0 }) 3 3, Value.slice (some { block := p.nb, off := 0 }) 3 3] 75))
    simpa using h
  have HS0 : Hid (TiSt L (w.heap.size + 1) (w.heap.size + 1) ByteArray.empty _ p t0 t1 t2 n0 n1 n2 msv (.slice none 0 0) [] w.heap.size TR D i tc dn (.slice pa ps.length pc) (.slice ma ms.length mc) (.slice ea es.length ec) ps ms es) :=
    ⟨⟨hN.below hbx, ⟨none, 0, rfl, fun h => by simp at h⟩, hbd0, ht.below hbx hL, by omega, by simp, f0, f1, f2⟩, hr2, hd.keeps fun _ _ _ _ => Keeps.below hbx⟩
  have HB0 : Hid (Below w.heap.size w _) := hbx
  have HPG : Hid (∀ q ∈ ps, OkName (ps.map (·.1)) q.2) := hpg
  have HEG : Hid (∀ q ∈ es, TyGood (ps.map (·.1)) q.1 q.2) := heg
  have HMG : Hid (∀ m ∈ ms, m.GoodIn (ps.map (·.1))) := hmg
  have hnl : (ps.map (·.1)).length ≤ 100 := by simpa using hps
  have HCAT : Hid (Cat (ps.map (·.1))) := cat_some _ hnl
  clear hbx hr2 hbd0 hN hd htr htri ht hpg heg hmg
  unfold NBlk.val
  go_enter Ybad.func11, Ybad.ntmps11
  go_wp2_with fail
  generalize (w.alloc (Obj.cells #[Value.pointer (some { block := p.sh, off := 0 }), Value.slice (some { block := p.tb, off := 0 }) 3 3, Value.slice (some { block := p.nb, off := 0 }) 3 3] 75)).alloc (Obj.cells #[Value.pointer none, Value.slice none 0 0] 101) = X at *
  generalize hR : w.heap.size = R at *
  refine (pnames_any X _ ps HS0.out.dc.pr hps).mono ?_
  rintro e w1 ⟨s1, rfl, hsc1, hb1⟩
  have hS1 := (HS0.out.below hb1).scope hsc1
  have hB1 : Below R w w1 := HB0.out.trans (hb1.mono (by have := HB0.out.size; omega))
  have HS1 : Hid (TiSt L (R + 1) (R + 1) (ByteArray.empty) w1 p t0 t1 t2 n0 n1 n2 msv (s1) (ps.map (·.1)) R TR D i tc dn (.slice pa ps.length pc) (.slice ma ms.length mc) (.slice ea es.length ec) ps ms es) := hS1
  have HB1 : Hid (Below R w w1) := hB1
  clear HS0 HB0 hsc1 hb1 hS1 hB1 s0 pg0 y3 ti d3
  go_wp2_with fail
  have hs73 : (⟨#[73]⟩ : ByteArray).size = 1 := rfl
  have he0 : ByteArray.empty.size = 0 := rfl
  refine (write_any (R + 1) (R + 1) ByteArray.empty ⟨#[73]⟩ w1 HS1.out.env.bd (by omega) HS1.out.env.hB).mono ?_
  rintro e w2 ⟨rfl, hbd2, hf2⟩
  have hS2 := HS1.out.wrote hf2 hbd2
  have HS2 : Hid (TiSt L (R + 1) (R + 1) (ByteArray.empty ++ ⟨#[73]⟩) w2 p t0 t1 t2 n0 n1 n2 msv (s1) (ps.map (·.1)) R TR D i tc dn (.slice pa ps.length pc) (.slice ma ms.length mc) (.slice ea es.length ec) ps ms es) := hS2
  have HB2 : Hid (Below R w w2) := HB1.out.trans (hf2.bel.mono (by omega))
  have hA2 : (ByteArray.empty ++ ⟨#[73]⟩).size ≤ 1 := by rw [ByteArray.size_append]; omega
  generalize hac : ByteArray.empty ++ ⟨#[73]⟩ = acc2 at *
  have HAC2 : Hid (ByteArray.empty ++ ⟨#[73]⟩ = acc2) := hac
  have r0 := cell_row (j := 0) hS2.r rfl
  have r1 := cell_row (j := 1) hS2.r rfl
  have r2 := cell_row (j := 2) hS2.r rfl
  have d3 := cell_row (j := 3) hS2.dc.d rfl
  have HPA : Hid (∀ N, Calls Ybad.prog 19 #[.agg #[Value.pointer (some { block := p.sh, off := 0 }), Value.slice (some { block := p.tb, off := 0 }) 3 3, Value.slice (some { block := p.nb, off := 0 }) 3 3], .pointer (some ⟨R + 1, 0, none⟩), .slice pa ps.length pc, s1] (w2.drewN N) fun e w3 => e = .returned (.tuple #[]) ∧ TiSt L (R + 1) (R + 1) (acc2 ++ ⟨#[60]⟩ ++ (semis (ps.map fun q => leaf t0 t1 t2 (ps.map (·.1)) q.2)) ++ ⟨#[62]⟩) w3 p t0 t1 t2 n0 n1 n2 msv (s1) (ps.map (·.1)) R TR D i tc dn (.slice pa ps.length pc) (.slice ma ms.length mc) (.slice ea es.length ec) ps ms es ∧ Below R w w3 ∧ w3.cell? ⟨R, 0, none⟩ = some (.pointer (some ⟨p.sh, 0, none⟩)) ∧ w3.cell? ⟨R, 1, none⟩ = some (.slice (some ⟨p.tb, 0, none⟩) 3 3) ∧ w3.cell? ⟨R, 2, none⟩ = some (.slice (some ⟨p.nb, 0, none⟩) 3 3) ∧ w3.cell? ⟨D, 3, none⟩ = some (.slice pa ps.length pc)) := fun N => by
    have hb0 : Below w2.heap.size w2 (w2.drewN N) := ⟨rfl, rfl, rfl, Nat.le_refl _, fun _ _ => rfl⟩
    have hE := HS2.out.below hb0
    refine (params_any L (R + 1) (R + 1) acc2 (w2.drewN N) p t0 t1 t2 n0 n1 n2 _ s1 (.slice pa ps.length pc) (ps.map (·.1)) ps hE.dc.pr HPG.out hE.env hnl hps (by omega)).mono ?_
    rintro e w3 ⟨rfl, hbd3, hf3⟩
    have hS3 := hE.wrote hf3 hbd3
    exact ⟨rfl, hS3, (HB2.out.trans (hb0.mono (by have := HB2.out.size; omega))).trans (hf3.bel.mono (by omega)), cell_row (j := 0) hS3.r rfl, cell_row (j := 1) hS3.r rfl, cell_row (j := 2) hS3.r rfl, cell_row (j := 3) hS3.dc.d rfl⟩
  clear hac HS1 HB1 hbd2 hf2 hS2
  go_wp2_with fail
  go_region_held3 (fun w' => w'.cell? ⟨R, 0, none⟩ = some (.pointer (some ⟨p.sh, 0, none⟩)) ∧ w'.cell? ⟨R, 1, none⟩ = some (.slice (some ⟨p.tb, 0, none⟩) 3 3) ∧ w'.cell? ⟨R, 2, none⟩ = some (.slice (some ⟨p.nb, 0, none⟩) 3 3) ∧ w'.cell? ⟨D, 3, none⟩ = some (.slice pa ps.length pc)) (go_keep) ((go_at_call 19; refine (HPA.out 1).mono ?_; rintro e w3 ⟨rfl, hS3, hB3, z0, z1, z2, z3⟩))
  have hT0 : (semis (ps.map fun q => leaf t0 t1 t2 (ps.map (·.1)) q.2)).size ≤ 100 * 23 := by
    have h := semis_size (ps.map fun q => leaf t0 t1 t2 (ps.map (·.1)) q.2) 22 (fun a ha => by
      rw [List.mem_map] at ha
      obtain ⟨q, _, rfl⟩ := ha
      exact leaf_size f0 f1 f2 _ hnl q.2) ps.length
    rw [List.take_of_length_le (by simp)] at h
    omega
  have hA3 : (acc2 ++ ⟨#[60]⟩ ++ (semis (ps.map fun q => leaf t0 t1 t2 (ps.map (·.1)) q.2)) ++ ⟨#[62]⟩).size ≤ 3000 := by
    simp only [ByteArray.size_append]
    have s1 : (⟨#[60]⟩ : ByteArray).size = 1 := rfl
    have s2 : (⟨#[62]⟩ : ByteArray).size = 1 := rfl
    omega
  generalize hac : acc2 ++ ⟨#[60]⟩ ++ (semis (ps.map fun q => leaf t0 t1 t2 (ps.map (·.1)) q.2)) ++ ⟨#[62]⟩ = acc3 at *
  have HAC3 : Hid (acc2 ++ ⟨#[60]⟩ ++ (semis (ps.map fun q => leaf t0 t1 t2 (ps.map (·.1)) q.2)) ++ ⟨#[62]⟩ = acc3) := hac
  have HS3 : Hid (TiSt L (R + 1) (R + 1) (acc3) w3 p t0 t1 t2 n0 n1 n2 msv (s1) (ps.map (·.1)) R TR D i tc dn (.slice pa ps.length pc) (.slice ma ms.length mc) (.slice ea es.length ec) ps ms es) := hS3
  have HB3 : Hid (Below R w w3) := hB3
  have hRl3 : R + 1 ≤ w3.heap.size := hS3.env.hB
  have d4 := cell_row (j := 4) hS3.dc.d rfl
  have hDl3 : D < w3.heap.size := (Array.getElem?_eq_some_iff.1 hS3.dc.d).1
  have hmk := fun w => run_make (P := Ybad.prog) w 51 9 i9 _ Ybad.underlying51 hi9 hz9 .i64 .i64 (ms.length : Int) (ms.length : Int) (by omega) (by omega) (by rw [hb9]; omega) (by omega)
  rw [hs9, Int.toNat_natCast] at hmk
  generalize hZ : madeCells (Value.string ⟨#[]⟩).cells (ms.length * 1) = Z at hmk
  have HZ : Hid (Z.size = ms.length) := by show _ = _; rw [← hZ, size_madeCells, Nat.mul_one]
  clear hac HPA HS2 HB2 r0 r1 r2 d3 hS3 hB3 z0 z1 z2 z3 hZ
  go_wp2_with fail
  have HST : Hid ((w3.alloc (Obj.cells Z 9)).heap[w3.heap.size]? = some (.cells Z 9 (0, 0)) ∧ Below w3.heap.size w3 (w3.alloc (Obj.cells Z 9))) := ⟨heap_alloc_newD _ _, (Below.refl _ w3).alloc (Nat.le_refl _) _⟩
  clear hmk d4 hDl3
  generalize w3.alloc (Obj.cells Z 9) = W4 at *
  generalize hM1 : w3.heap.size = M1 at *
  go_loopw [141] (fun x wr => ∃ j : Nat, j ≤ ms.length ∧ x = .int .i64 j ∧ ∃ cur, wr.heap[M1]? = some (.cells cur 9 (0, 0)) ∧ cur.size = ms.length ∧ (∀ q (h : q < ms.length), q < j → cur[q]? = some (.string (ms[q].spec t0 t1 t2 n0 n1 n2 (ps.map (·.1))))) ∧ Below M1 w3 wr) (fun x _ => ms.length - (intOf x).toNat)
  case atStart => exact ⟨0, Nat.zero_le _, rfl, Z, HST.out.1, HZ.out, fun i _ h => absurd h (Nat.not_lt_zero _), HST.out.2⟩
  case round =>
    obtain ⟨j, hj, rfl, cur, hmb, hcs, hdone, hb⟩ := hrel
    clear HST
    have hS := HS3.out.below (show Below w3.heap.size w3 wr by rw [hM1]; exact hb)
    have hM1l : M1 < wr.heap.size := (Array.getElem?_eq_some_iff.1 hmb).1
    by_cases hlt : j < ms.length
    · obtain ⟨a', c', he, hsp⟩ := id hS.dc.sp
      simp only [Value.slice.injEq, true_and] at he
      obtain ⟨rfl, rfl⟩ := he
      obtain ⟨g, gcur, rfl, hgr, hcur⟩ := hsp (by omega)
      obtain ⟨mpv, mrav, hcl, hM3, hM4⟩ := hcur j hlt
      obtain ⟨xa, xc, rfl, hjk⟩ := id hM3
      clear hjk
      obtain ⟨ya, yc, hyv, hjk⟩ := id hM4
      clear hjk
      rw [List.length_nil] at hyv
      subst hyv
      have c0 := cell_row (j := j * 9) hgr (by simpa [specCells] using hcl 0 (by omega))
      have c1 := cell_row (j := j * 9 + 1) hgr (by simpa [specCells] using hcl 1 (by omega))
      have c2 := cell_row (j := j * 9 + 2) hgr (by simpa [specCells] using hcl 2 (by omega))
      have c3 := cell_row (j := j * 9 + 3) hgr (by simpa [specCells] using hcl 3 (by omega))
      have c4 := cell_row (j := j * 9 + 4) hgr (by simpa [specCells] using hcl 4 (by omega))
      have c5 := cell_row (j := j * 9 + 5) hgr (by simpa [specCells] using hcl 5 (by omega))
      have c6 := cell_row (j := j * 9 + 6) hgr (by simpa [specCells] using hcl 6 (by omega))
      have c7 := cell_row (j := j * 9 + 7) hgr (by simpa [specCells] using hcl 7 (by omega))
      have c8 := cell_row (j := j * 9 + 8) hgr (by simpa [specCells] using hcl 8 (by omega))
      have b0 := cell_row (j := 0) hS.r rfl
      have b1 := cell_row (j := 1) hS.r rfl
      have b2 := cell_row (j := 2) hS.r rfl
      have hRlt : R < wr.heap.size := (Array.getElem?_eq_some_iff.1 hS.r).1
      have hG := HMG.out _ (List.getElem_mem hlt)
      have hbo := (Below.refl _ wr).alloc (Nat.le_refl _) (Obj.cells (specCells (mnameOf ms[j].k) (.slice xa ms[j].fs.length xc) ms[j].rx (.slice ya 0 yc)) 83)
      have HCM : Hid (Calls Ybad.prog 22 _ (wr.alloc (Obj.cells (specCells (mnameOf ms[j].k) (.slice xa ms[j].fs.length xc) ms[j].rx (.slice ya 0 yc)) 83)) _) := spec_any L ms[j].k _ p t0 t1 t2 n0 n1 n2 msv s1 _ _ (ps.map (·.1)) ms[j].fs ms[j].rx [] hG.k (hS.below hbo).got g0 g1 g2 HCAT.out (hM3.below hbo) (hM4.below hbo) hG.fs hG.rx hnl hG.l
      have HMB : Hid ((wr.alloc (Obj.cells (specCells (mnameOf ms[j].k) (.slice xa ms[j].fs.length xc) ms[j].rx (.slice ya 0 yc)) 83)).heap[M1]? = some (.cells cur 9 (0, 0)) ∧ Below M1 w3 (wr.alloc (Obj.cells (specCells (mnameOf ms[j].k) (.slice xa ms[j].fs.length xc) ms[j].rx (.slice ya 0 yc)) 83))) := ⟨Keeps.below hbo _ _ hmb, hb.trans (hbo.mono (by omega))⟩
      have j0 : (0 : Int) ≤ (j : Int) := by omega
      have j1 : (j : Int) < (ms.length : Int) := by omega
      have hZX : (wr.alloc (Obj.cells (specCells (mnameOf ms[j].k) (.slice xa ms[j].fs.length xc) ms[j].rx (.slice ya 0 yc)) 83)).heap.size = wr.heap.size + 1 := by simp
      have HZX : Hid (M1 ≤ (wr.alloc (Obj.cells (specCells (mnameOf ms[j].k) (.slice xa ms[j].fs.length xc) ms[j].rx (.slice ya 0 yc)) 83)).heap.size) := by show _ ≤ _; omega
      have HMT : Hid (ms[j].spec t0 t1 t2 n0 n1 n2 (ps.map (·.1)) = ⟨#[109]⟩ ++ num (tn3 n0 n1 n2 ms[j].k) ++ sigText t0 t1 t2 (ps.map (·.1)) ms[j].fs ms[j].rx []) := rfl
      clear hS hb hmb hgr hcur hcl hM3 hM4 hsp hG hbo hZX
      unfold NBlk.val at HCM
      unfold specCells at HCM HMB HZX
      generalize ⟨#[109]⟩ ++ num (tn3 n0 n1 n2 ms[j].k) ++ sigText t0 t1 t2 (ps.map (·.1)) ms[j].fs ms[j].rx [] = mtx at *
      generalize mnameOf ms[j].k = mk at *
      generalize ms[j].rx = mrx at *
      generalize ms[j].fs.length = mfl at *
      go_wp2_with fail
      refine HCM.out.mono ?_
      rintro e w7 ⟨rfl, hb7⟩
      have hmb7 := Keeps.below hb7 _ _ HMB.out.1
      have hb8 := HMB.out.2.trans (hb7.mono HZX.out)
      have xm := cell_row (j := j) hmb7 (Array.getElem?_eq_getElem (by omega))
      have xf : ∀ j, w7.frozen? ⟨M1, j, none⟩ = false := fun j => by simp [World.frozen?, hmb7]
      have HM8 : Hid ((w7.setCell ⟨M1, j, none⟩ (.string mtx)).heap[M1]? = some (.cells (cur.setIfInBounds j (.string mtx)) 9 (0, 0)) ∧ Below M1 w3 (w7.setCell ⟨M1, j, none⟩ (.string mtx))) := ⟨setCell_row w7 M1 j cur 9 _ hmb7, hb8.setCell (Nat.le_refl _) _⟩
      clear HCM HMB HZX hb7 hb8 hmb7 b0 b1 b2 c0 c1 c2 c3 c4 c5 c6 c7 c8
      go_wp2_with fail
      go_roundw
      case rel =>
        refine ⟨j + 1, by omega, by go_num, _, HM8.out.1, by simpa using hcs, fun q hq hqj => ?_, HM8.out.2⟩
        rw [Array.getElem?_setIfInBounds]
        by_cases hqe : j = q
        · subst hqe
          rw [if_pos rfl, if_pos (by omega), HMT.out]
        · rw [if_neg hqe]
          exact hdone q hq (by omega)
      case measure => simp [intOf]; omega
    · obtain rfl : j = ms.length := by omega
      have HSA : Hid (TiSt L (R + 1) (R + 1) (acc3) wr p t0 t1 t2 n0 n1 n2 msv (s1) (ps.map (·.1)) R TR D i tc dn (.slice pa ps.length pc) (.slice ma ms.length mc) (.slice ea es.length ec) ps ms es) := hS
      have HBA : Hid (Below R w wr) := HB3.out.trans (hb.mono (by omega))
      have HMA : Hid (wr.heap[M1]? = some (.cells cur 9 (0, 0)) ∧ ∀ q (hq : q < (ms.map fun m => m.spec t0 t1 t2 n0 n1 n2 (ps.map (·.1))).length), cur[q]? = some (.string (ms.map fun m => m.spec t0 t1 t2 n0 n1 n2 (ps.map (·.1)))[q])) := ⟨hmb, fun q hq => by
        rw [List.length_map] at hq
        rw [hdone q hq hq, List.getElem_map]⟩
      have d5 := cell_row (j := 5) hS.dc.d rfl
      have hDl5 : D < wr.heap.size := (Array.getElem?_eq_some_iff.1 hS.dc.d).1
      have hRl5 : R + 1 ≤ wr.heap.size := hS.env.hB
      have hmk := fun w => run_make (P := Ybad.prog) w 51 9 i9 _ Ybad.underlying51 hi9 hz9 .i64 .i64 (es.length : Int) (es.length : Int) (by omega) (by omega) (by rw [hb9]; omega) (by omega)
      rw [hs9, Int.toNat_natCast] at hmk
      generalize hZ : madeCells (Value.string ⟨#[]⟩).cells (es.length * 1) = Z2 at hmk
      have HZ2 : Hid (Z2.size = es.length) := by show _ = _; rw [← hZ, size_madeCells, Nat.mul_one]
      clear hZ hS hb hmb hdone hcs HS3 HB3 HZ
      go_wp2_with fail
      have HST : Hid ((wr.alloc (Obj.cells Z2 9)).heap[wr.heap.size]? = some (.cells Z2 9 (0, 0)) ∧ Below wr.heap.size wr (wr.alloc (Obj.cells Z2 9))) := ⟨heap_alloc_newD _ _, (Below.refl _ wr).alloc (Nat.le_refl _) _⟩
      clear hmk d5 hDl5
      generalize wr.alloc (Obj.cells Z2 9) = W6 at *
      generalize hM2 : wr.heap.size = M2 at *
      have hwn : ∃ w5 : World, w5 = wr := ⟨_, rfl⟩
      obtain ⟨w5, hw5⟩ := hwn
      rw [← hw5] at HSA HBA HMA HST hM2
      clear hw5
      go_loopw [165] (fun x wr => ∃ j : Nat, j ≤ es.length ∧ x = .int .i64 j ∧ ∃ cur, wr.heap[M2]? = some (.cells cur 9 (0, 0)) ∧ cur.size = es.length ∧ (∀ q (h : q < es.length), q < j → cur[q]? = some (.string (tyText t0 t1 t2 (ps.map (·.1)) es[q].1 es[q].2))) ∧ Below M2 w5 wr) (fun x _ => es.length - (intOf x).toNat)
      case atStart => exact ⟨0, Nat.zero_le _, rfl, Z2, HST.out.1, HZ2.out, fun i _ h => absurd h (Nat.not_lt_zero _), HST.out.2⟩
      case round =>
        obtain ⟨j, hj, rfl, cur2, hmb, hcs, hdone, hb⟩ := hrel
        clear HST
        have hS := HSA.out.below (show Below w5.heap.size w5 wr by rw [hM2]; exact hb)
        have hM2l : M2 < wr.heap.size := (Array.getElem?_eq_some_iff.1 hmb).1
        by_cases hlt : j < es.length
        · obtain ⟨a', c', he, hsp⟩ := id hS.dc.em
          simp only [Value.slice.injEq, true_and] at he
          obtain ⟨rfl, rfl⟩ := he
          obtain ⟨g, gcur, rfl, hgr, hcur⟩ := hsp (by omega)
          obtain ⟨k0, k1, k2, av, k3, hav⟩ := hcur j hlt
          obtain ⟨va, vc, rfl, hjk⟩ := id hav
          clear hjk
          have c0 := cell_row (j := j * 4) hgr k0
          have c1 := cell_row (j := j * 4 + 1) hgr k1
          have c2 := cell_row (j := j * 4 + 2) hgr k2
          have c3 := cell_row (j := j * 4 + 3) hgr k3
          have b0 := cell_row (j := 0) hS.r rfl
          have b1 := cell_row (j := 1) hS.r rfl
          have b2 := cell_row (j := 2) hS.r rfl
          have hRlt : R < wr.heap.size := (Array.getElem?_eq_some_iff.1 hS.r).1
          have hG := HEG.out _ (List.getElem_mem hlt)
          have hbo := (Below.refl _ wr).alloc (Nat.le_refl _) (Obj.cells #[.int .i64 0, .int .i64 0, .string es[j].1, .slice va es[j].2.length vc] 43)
          have HCM : Hid (Calls Ybad.prog 23 _ (wr.alloc (Obj.cells #[.int .i64 0, .int .i64 0, .string es[j].1, .slice va es[j].2.length vc] 43)) _) := typeText_any L _ p t0 t1 t2 n0 n1 n2 msv s1 (.slice va es[j].2.length vc) (ps.map (·.1)) es[j].2 es[j].1 (hS.below hbo).got (hav.below hbo) hG hnl
          have HMB : Hid ((wr.alloc (Obj.cells #[.int .i64 0, .int .i64 0, .string es[j].1, .slice va es[j].2.length vc] 43)).heap[M2]? = some (.cells cur2 9 (0, 0)) ∧ Below M2 w5 (wr.alloc (Obj.cells #[.int .i64 0, .int .i64 0, .string es[j].1, .slice va es[j].2.length vc] 43))) := ⟨Keeps.below hbo _ _ hmb, hb.trans (hbo.mono (by omega))⟩
          have j0 : (0 : Int) ≤ (j : Int) := by omega
          have j1 : (j : Int) < (es.length : Int) := by omega
          have hZX : (wr.alloc (Obj.cells #[.int .i64 0, .int .i64 0, .string es[j].1, .slice va es[j].2.length vc] 43)).heap.size = wr.heap.size + 1 := by simp
          have HZX : Hid (M2 ≤ (wr.alloc (Obj.cells #[.int .i64 0, .int .i64 0, .string es[j].1, .slice va es[j].2.length vc] 43)).heap.size) := by show _ ≤ _; omega
          clear hS hb hmb hgr hcur k0 k1 k2 k3 hav hsp hG hbo hZX
          unfold NBlk.val tyV at HCM
          have HMT : Hid (tyText t0 t1 t2 (ps.map (·.1)) es[j].1 es[j].2 = tyText t0 t1 t2 (ps.map (·.1)) es[j].1 es[j].2) := rfl
          generalize hmt : tyText t0 t1 t2 (ps.map (·.1)) es[j].1 es[j].2 = mtx at HCM
          generalize es[j].1 = ej at HCM HMB HZX c2
          generalize es[j].2.length = el at HCM HMB HZX c3
          have HMT2 : Hid (tyText t0 t1 t2 (ps.map (·.1)) es[j].1 es[j].2 = mtx) := hmt
          clear hmt HMT
          go_wp2_with fail
          refine HCM.out.mono ?_
          rintro e w7 ⟨rfl, hb7⟩
          have hmb7 := Keeps.below hb7 _ _ HMB.out.1
          have hb8 := HMB.out.2.trans (hb7.mono HZX.out)
          have xm := cell_row (j := j) hmb7 (Array.getElem?_eq_getElem (by omega))
          have xf : ∀ j, w7.frozen? ⟨M2, j, none⟩ = false := fun j => by simp [World.frozen?, hmb7]
          have HM8 : Hid ((w7.setCell ⟨M2, j, none⟩ (.string mtx)).heap[M2]? = some (.cells (cur2.setIfInBounds j (.string mtx)) 9 (0, 0)) ∧ Below M2 w5 (w7.setCell ⟨M2, j, none⟩ (.string mtx))) := ⟨setCell_row w7 M2 j cur2 9 _ hmb7, hb8.setCell (Nat.le_refl _) _⟩
          clear HCM HMB HZX hb7 hb8 hmb7 b0 b1 b2 c0 c1 c2 c3
          go_wp2_with fail
          go_roundw
          case rel =>
            refine ⟨j + 1, by omega, by go_num, _, HM8.out.1, by simpa using hcs, fun q hq hqj => ?_, HM8.out.2⟩
            rw [Array.getElem?_setIfInBounds]
            by_cases hqe : j = q
            · subst hqe
              rw [if_pos rfl, if_pos (by omega), HMT2.out]
            · rw [if_neg hqe]
              exact hdone q hq (by omega)
          case measure => simp [intOf]; omega
        · obtain rfl : j = es.length := by omega
          have hlS : (ms.map fun m => m.spec t0 t1 t2 n0 n1 n2 (ps.map (·.1))).length = ms.length := by simp
          have hlE : (es.map fun q => tyText t0 t1 t2 (ps.map (·.1)) q.1 q.2).length = es.length := by simp
          have hm1 : wr.heap[M1]? = some (.cells cur 9 (0, 0)) := (hb.block M1 (by rw [← hM2]; exact (Array.getElem?_eq_some_iff.1 HMA.out.1).1)).trans HMA.out.1
          have hdoneE : ∀ q (hq : q < (es.map fun q => tyText t0 t1 t2 (ps.map (·.1)) q.1 q.2).length), cur2[q]? = some (.string (es.map fun q => tyText t0 t1 t2 (ps.map (·.1)) q.1 q.2)[q]) := fun q hq => by
            have hq' : q < es.length := by rw [← hlE]; exact hq
            rw [hdone q hq' hq', List.getElem_map]
          have HSB : Hid (TiSt L (R + 1) (R + 1) (acc3) wr p t0 t1 t2 n0 n1 n2 msv (s1) (ps.map (·.1)) R TR D i tc dn (.slice pa ps.length pc) (.slice ma ms.length mc) (.slice ea es.length ec) ps ms es) := hS
          have HBB : Hid (Below R w wr) := HBA.out.trans (hb.mono (by omega))
          have hRlw : R + 1 ≤ wr.heap.size := hS.env.hB
          have HM1 : Hid (wr.heap[M1]? = some (.cells cur 9 (0, 0))) := hm1
          have HM2 : Hid (wr.heap[M2]? = some (.cells cur2 9 (0, 0))) := hmb
          have HD2 : Hid (∀ q (hq : q < (es.map fun q => tyText t0 t1 t2 (ps.map (·.1)) q.1 q.2).length), cur2[q]? = some (.string (es.map fun q => tyText t0 t1 t2 (ps.map (·.1)) q.1 q.2)[q])) := hdoneE
          have HD1 : Hid (∀ q (hq : q < (ms.map fun m => m.spec t0 t1 t2 n0 n1 n2 (ps.map (·.1))).length), cur[q]? = some (.string (ms.map fun m => m.spec t0 t1 t2 n0 n1 n2 (ps.map (·.1)))[q])) := HMA.out.2
          have hzS : ∀ a ∈ sortB (ms.map fun m => m.spec t0 t1 t2 n0 n1 n2 (ps.map (·.1))), a.size ≤ 4000000 := fun a ha => by
            have h := sortB_mem ha
            rw [List.mem_map] at h
            obtain ⟨m, hm, rfl⟩ := h
            have := MD.spec_size f0 f1 f2 g0 g1 g2 (ps.map (·.1)) hnl m (HMG.out m hm)
            omega
          have hzE : ∀ a ∈ sortB (es.map fun q => tyText t0 t1 t2 (ps.map (·.1)) q.1 q.2), a.size ≤ 4000000 := fun a ha => by
            have h := sortB_mem ha
            rw [List.mem_map] at h
            obtain ⟨q, hq, rfl⟩ := h
            have := tyText_size f0 f1 f2 (ps.map (·.1)) hnl q.1 q.2 (HEG.out q hq).2.2.2
            omega
          have hjS := joinB_size_all _ 4000000 hzS
          have hjE := joinB_size_all _ 4000000 hzE
          rw [sortB_length, hlS] at hjS
          rw [sortB_length, hlE] at hjE
          have hjS2 : (joinB (sortB (ms.map fun m => m.spec t0 t1 t2 n0 n1 n2 (ps.map (·.1))))).size ≤ 2000000000 := by omega
          have hjE2 : (joinB (sortB (es.map fun q => tyText t0 t1 t2 (ps.map (·.1)) q.1 q.2))).size ≤ 2000000000 := by omega
          have HTX : Hid (ifaceText t0 t1 t2 n0 n1 n2 ps ms es = acc3 ++ (⟨#[123]⟩ ++ joinB (sortB (ms.map fun m => m.spec t0 t1 t2 n0 n1 n2 (ps.map (·.1)))) ++ ⟨#[47]⟩ ++ joinB (sortB (es.map fun q => tyText t0 t1 t2 (ps.map (·.1)) q.1 q.2)) ++ ⟨#[125]⟩)) := by
            show _ = _
            rw [← HAC3.out, ← HAC2.out]
            unfold ifaceText
            simp [ByteArray.append_assoc]
          clear hS hb hmb hcs hdone HSA HBA HMA hm1 hdoneE hjS hjE
          have hs123 : (⟨#[123]⟩ : ByteArray).size = 1 := rfl
          have hs47 : (⟨#[47]⟩ : ByteArray).size = 1 := rfl
          have hs125 : (⟨#[125]⟩ : ByteArray).size = 1 := rfl
          generalize (ms.map fun m => m.spec t0 t1 t2 n0 n1 n2 (ps.map (·.1))) = spl at *
          generalize (es.map fun q => tyText t0 t1 t2 (ps.map (·.1)) q.1 q.2) = eml at *
          go_wp2_with fail
          refine (values_any (some ⟨M1, 0, none⟩) ms.length ms.length wr).mono ?_
          rintro e wv ⟨rfl, rfl⟩
          have hv1 := (Below.refl _ wr).alloc (Nat.le_refl _) (Obj.cells #[.slice (some ⟨M1, 0, none⟩) ms.length ms.length] 51)
          have HV1 : Hid (Below wr.heap.size wr (wr.alloc (Obj.cells #[.slice (some ⟨M1, 0, none⟩) ms.length ms.length] 51))) := hv1
          have HC1 : Hid (Calls Ybad.prog 25 _ (wr.alloc (Obj.cells #[.slice (some ⟨M1, 0, none⟩) ms.length ms.length] 51)) _) := sorted_any wr.heap.size (.slice (some ⟨M1, 0, none⟩) ms.length ms.length) spl (by omega) _ (by simp) (cell_row (j := 0) (heap_alloc_newD wr _) rfl) (strs_of hlS (Keeps.below hv1 _ _ HM1.out) HD1.out)
          clear hv1
          go_wp2_with fail
          refine HC1.out.mono ?_
          rintro e wa ⟨sva, rfl, hsca, hcpa, hba⟩
          have hbA := HV1.out.trans (hba.mono HV1.out.size)
          have HBA : Hid (Below wr.heap.size wr wa) := hbA
          have HJ1 : Hid (Calls Ybad.prog 24 _ wa _) := join_any sva (sortB spl) wa hsca (by rw [sortB_length]; omega) hzS (by rw [sortB_length, hlS]; rw [hlS] at hcpa; exact hcpa)
          clear HC1 HV1 hba hbA hsca hcpa
          go_wp2_with fail
          refine HJ1.out.mono ?_
          rintro e wb ⟨rfl, hbb⟩
          have HBB2 : Hid (Below wr.heap.size wr wb) := HBA.out.trans (hbb.mono HBA.out.size)
          clear HJ1 HBA hbb
          generalize joinB (sortB spl) = js at *
          have z1 : (⟨#[123]⟩ ++ js).size ≤ 2000000001 := by rw [ByteArray.size_append]; omega
          have z2 : (⟨#[123]⟩ ++ js ++ ⟨#[47]⟩).size ≤ 2000000002 := by rw [ByteArray.size_append]; omega
          go_wp2_with fail
          refine (values_any (some ⟨M2, 0, none⟩) es.length es.length wb).mono ?_
          rintro e wv ⟨rfl, rfl⟩
          have hv1 := (Below.refl _ wb).alloc (Nat.le_refl _) (Obj.cells #[.slice (some ⟨M2, 0, none⟩) es.length es.length] 51)
          have HV1 : Hid (Below wb.heap.size wb (wb.alloc (Obj.cells #[.slice (some ⟨M2, 0, none⟩) es.length es.length] 51))) := hv1
          have HC1 : Hid (Calls Ybad.prog 25 _ (wb.alloc (Obj.cells #[.slice (some ⟨M2, 0, none⟩) es.length es.length] 51)) _) := sorted_any wb.heap.size (.slice (some ⟨M2, 0, none⟩) es.length es.length) eml (by omega) _ (by simp) (cell_row (j := 0) (heap_alloc_newD wb _) rfl) (strs_of hlE (Keeps.below hv1 _ _ (Keeps.below HBB2.out _ _ HM2.out)) HD2.out)
          clear hv1
          go_wp2_with fail
          refine HC1.out.mono ?_
          rintro e wa ⟨sva, rfl, hsca, hcpa, hba⟩
          have hbA := HV1.out.trans (hba.mono HV1.out.size)
          have HBA : Hid (Below wb.heap.size wb wa) := hbA
          have HJ1 : Hid (Calls Ybad.prog 24 _ wa _) := join_any sva (sortB eml) wa hsca (by rw [sortB_length]; omega) hzE (by rw [sortB_length, hlE]; rw [hlE] at hcpa; exact hcpa)
          clear HC1 HV1 hba hbA hsca hcpa
          go_wp2_with fail
          refine HJ1.out.mono ?_
          rintro e wd ⟨rfl, hbb⟩
          have hb3 := HBB2.out.trans ((HBA.out.trans (hbb.mono HBA.out.size)).mono HBB2.out.size)
          have hS9 := HSB.out.below hb3
          have HS9 : Hid (TiSt L (R + 1) (R + 1) (acc3) wd p t0 t1 t2 n0 n1 n2 msv (s1) (ps.map (·.1)) R TR D i tc dn (.slice pa ps.length pc) (.slice ma ms.length mc) (.slice ea es.length ec) ps ms es) := hS9
          have HB9 : Hid (Below R w wd) := HBB.out.trans (hb3.mono (by omega))
          clear HJ1 HBA hbb hb3 hS9 HSB HBB HBB2 HM1 HM2 HD1 HD2
          generalize joinB (sortB eml) = je at *
          have z3 : (⟨#[123]⟩ ++ js ++ ⟨#[47]⟩ ++ je).size ≤ 4000000002 := by rw [ByteArray.size_append]; omega
          have z4 : (⟨#[123]⟩ ++ js ++ ⟨#[47]⟩ ++ je ++ ⟨#[125]⟩).size ≤ 4000000003 := by rw [ByteArray.size_append]; omega
          have HWR : Hid (Calls Ybad.prog 18 _ wd _) := write_any (R + 1) (R + 1) acc3 (⟨#[123]⟩ ++ js ++ ⟨#[47]⟩ ++ je ++ ⟨#[125]⟩) wd HS9.out.env.bd (by omega) HS9.out.env.hB
          go_wp2_with fail
          refine HWR.out.mono ?_
          rintro e wf ⟨rfl, hbdf, hff⟩
          have hSf := HS9.out.wrote hff hbdf
          have hBf := HB9.out.trans (hff.bel.mono (Nat.le_succ R))
          clear HWR HS9 HB9
          go_wp2_with fail
          refine (string_any (R + 1) (R + 1) _ wf hSf.env.bd hSf.env.hB).mono ?_
          rintro e wg ⟨rfl, _, hfg⟩
          go_wp2_with fail
          go_ret
          exact ⟨by rw [HTX.out]; rfl, by rw [hR]; exact hBf.trans (hfg.bel.mono (Nat.le_succ R))⟩
end Go.Proofs.YbulkbmowDoor
