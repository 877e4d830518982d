/-
  LawS3168AIface, walked.
-/
import Derived.Test.YbulkbmowDoorLj
import Derived.Test.YbulkbmowDoorTiw
namespace Go.Proofs.YbulkbmowDoor
open Go.RowKit Go

set_option maxRecDepth 100000 in
set_option maxHeartbeats 40000000 in
theorem law_iface (L : Nat) (w : World) (t0 t1 t2 n0 n1 n2 : Int) (at8 np8 b0 b1 : Nat) (fv mv : Value) (fl : List (Nat × List Nat)) (ml : List MIn) (ht : Tab L w) (hL : L ≤ w.heap.size) (f0 : Fits t0) (f1 : Fits t1) (f2 : Fits t2) (g0 : Fits n0) (g1 : Fits n1) (g2 : Fits n2) (hb0 : b0 < 256) (hb1 : b1 < 256) (hat : at8 < 256) (hnp : np8 < 256) (hf : InF w fv fl) (hm : InM w mv ml) :
    Calls Ybad.prog 4 #[.int .i64 t0, .int .i64 t1, .int .i64 t2, .int .i64 n0, .int .i64 n1, .int .i64 n2, .int .u8 at8, .int .u8 np8, .agg #[.int .u8 b0, .int .u8 b1], mv, fv] w fun e w' => e = .returned (.bool true) ∧ Below w.heap.size w w' := by
  obtain ⟨fa, fc, rfl, hfr⟩ := id hf
  obtain ⟨ma, mc, rfl, hmr⟩ := id hm
  have HTAB : Hid (Tab L w) := ht
  have HF : Hid (0 < fl.length → ∃ g o, fa = some ⟨g, o, none⟩ ∧ ∀ j (h : j < fl.length), fl[j].1 < 256 ∧ w.cell? ⟨g, o + j * 2, none⟩ = some (.int .u8 fl[j].1) ∧ ∃ av, w.cell? ⟨g, o + j * 2 + 1, none⟩ = some av ∧ U8Row w av fl[j].2) := hfr
  have HM : Hid (0 < ml.length → ∃ g o, ma = some ⟨g, o, none⟩ ∧ ∀ j (h : j < ml.length), ml[j].nm < 256 ∧ ml[j].rs < 256 ∧ w.cell? ⟨g, o + j * 3, none⟩ = some (.int .u8 ml[j].nm) ∧ w.cell? ⟨g, o + j * 3 + 2, none⟩ = some (.int .u8 ml[j].rs) ∧ ∃ av, w.cell? ⟨g, o + j * 3 + 1, none⟩ = some av ∧ U8Row w av ml[j].ps) := hmr
  have HS0 : Hid ((w.alloc (Obj.cells #[.int .u8 b0, .int .u8 b1] 22)).heap[w.heap.size]? = some (.cells #[.int .u8 b0, .int .u8 b1] 22 (0, 0)) ∧ Below w.heap.size w (w.alloc (Obj.cells #[.int .u8 b0, .int .u8 b1] 22))) := ⟨heap_alloc_newD _ _, (Below.refl _ w).alloc (Nat.le_refl _) _⟩
  clear ht hf hm hfr hmr
  by_cases hlm : 300 < ml.length
  · have hlm' : (300 : Int) < (ml.length : Int) := by omega
    go_enter Ybad.func4, Ybad.ntmps4
    go_wp2_with fail
    go_ret
    exact ⟨rfl, HS0.out.2⟩
  by_cases hlf : 300 < fl.length
  · have hlm' : ¬ (300 : Int) < (ml.length : Int) := by omega
    have hlf' : (300 : Int) < (fl.length : Int) := by omega
    go_enter Ybad.func4, Ybad.ntmps4
    go_wp2_with fail
    go_ret
    exact ⟨rfl, HS0.out.2⟩
  have hlf' : ¬ (300 : Int) < (fl.length : Int) := by omega
  have hlm' : ¬ (300 : Int) < (ml.length : Int) := by omega
  go_enter Ybad.func4, Ybad.ntmps4
  go_wp2_with fail
  clear hlf' hlm'
  generalize w.alloc (Obj.cells #[.int .u8 b0, .int .u8 b1] 22) = W0 at *
  generalize hS : w.heap.size = S at *
  go_loopw [62] (fun x wr => ∃ j : Nat, j ≤ fl.length ∧ x = .int .i64 j ∧ (∀ q (h : q < fl.length), q < j → fl[q].2.length ≤ 300) ∧ wr.heap[S]? = some (.cells #[.int .u8 b0, .int .u8 b1] 22 (0, 0)) ∧ Below S w wr) (fun x _ => fl.length - (intOf x).toNat)
  case atStart => exact ⟨0, Nat.zero_le _, rfl, fun q _ h => absurd h (Nat.not_lt_zero _), HS0.out.1, HS0.out.2⟩
  case round =>
    obtain ⟨j, hj, rfl, hdone, hs, hB⟩ := hrel
    clear HS0
    have hSl : S < wr.heap.size := (Array.getElem?_eq_some_iff.1 hs).1
    by_cases hlt : j < fl.length
    · obtain ⟨g, o, rfl, hcell⟩ := HF.out (by omega)
      obtain ⟨h256, c0, av, c1, hu⟩ := hcell j hlt
      have hgS : g < S := by rw [← hS]; exact World.block_lt_of_cell? w _ c0
      have c0' := (hB.cell (p := ⟨g, o + j * 2, none⟩) hgS).trans c0
      have c1' := (hB.cell (p := ⟨g, o + j * 2 + 1, none⟩) hgS).trans c1
      obtain ⟨va, vc, rfl, hjk⟩ := hu
      clear hjk
      have hob := (Below.refl _ wr).alloc (Nat.le_refl _) (Obj.cells #[.int .u8 fl[j].1, .slice va fl[j].2.length vc] 27)
      have HN : Hid ((wr.alloc (Obj.cells #[.int .u8 fl[j].1, .slice va fl[j].2.length vc] 27)).heap[S]? = some (.cells #[.int .u8 b0, .int .u8 b1] 22 (0, 0)) ∧ Below S w (wr.alloc (Obj.cells #[.int .u8 fl[j].1, .slice va fl[j].2.length vc] 27))) := ⟨Keeps.below hob _ _ hs, hB.trans (hob.mono (by omega))⟩
      clear hcell c0 c1 hs hB hob
      by_cases hbig : 300 < fl[j].2.length
      · have hbig' : (300 : Int) < (fl[j].2.length : Int) := by omega
        generalize fl[j].2.length = len at *
        generalize fl[j].1 = sel at *
        go_wp2_with fail
        go_ret
        exact ⟨rfl, by rw [hS]; exact HN.out.2⟩
      · have hbig' : ¬ (300 : Int) < (fl[j].2.length : Int) := by omega
        have hd' : ∀ q (h : q < fl.length), q < j + 1 → fl[q].2.length ≤ 300 := fun q h hq => by
          by_cases hqe : q = j
          · subst hqe; omega
          · exact hdone q h (by omega)
        have HD : Hid (∀ q (h : q < fl.length), q < j + 1 → fl[q].2.length ≤ 300) := hd'
        clear hdone hd'
        generalize fl[j].2.length = len at *
        generalize fl[j].1 = sel at *
        go_wp2_with fail
        go_roundw
        case rel => exact ⟨j + 1, by omega, by go_num, HD.out, HN.out.1, HN.out.2⟩
        case measure => simp [intOf]; omega
    · obtain rfl : j = fl.length := by omega
      have HFA : Hid (∀ q (h : q < fl.length), fl[q].2.length ≤ 300) := fun q h => hdone q h h
      clear hdone
      go_wp2_with fail
      have HS1 : Hid (wr.heap[S]? = some (.cells #[.int .u8 b0, .int .u8 b1] 22 (0, 0)) ∧ Below S w wr) := ⟨hs, hB⟩
      clear hs hB hSl
      generalize wr = W1 at *
      go_loopw [73] (fun x wr => ∃ j : Nat, j ≤ ml.length ∧ x = .int .i64 j ∧ (∀ q (h : q < ml.length), q < j → ml[q].ps.length ≤ 300) ∧ wr.heap[S]? = some (.cells #[.int .u8 b0, .int .u8 b1] 22 (0, 0)) ∧ Below S w wr) (fun x _ => ml.length - (intOf x).toNat)
      case atStart => exact ⟨0, Nat.zero_le _, rfl, fun q _ h => absurd h (Nat.not_lt_zero _), HS1.out.1, HS1.out.2⟩
      case round =>
        obtain ⟨j, hj, rfl, hdone, hs, hB⟩ := hrel
        clear HS1
        have hSl : S < wr.heap.size := (Array.getElem?_eq_some_iff.1 hs).1
        by_cases hlt : j < ml.length
        · obtain ⟨g, o, rfl, hcell⟩ := HM.out (by omega)
          obtain ⟨h256, h257, c0, c2, av, c1, hu⟩ := hcell j hlt
          have hgS : g < S := by rw [← hS]; exact World.block_lt_of_cell? w _ c0
          have c0' := (hB.cell (p := ⟨g, o + j * 3, none⟩) hgS).trans c0
          have c1' := (hB.cell (p := ⟨g, o + j * 3 + 1, none⟩) hgS).trans c1
          have c2' := (hB.cell (p := ⟨g, o + j * 3 + 2, none⟩) hgS).trans c2
          obtain ⟨va, vc, rfl, hjk⟩ := hu
          clear hjk
          have hob := (Below.refl _ wr).alloc (Nat.le_refl _) (Obj.cells #[.int .u8 ml[j].nm, .slice va ml[j].ps.length vc, .int .u8 ml[j].rs] 29)
          have HN : Hid ((wr.alloc (Obj.cells #[.int .u8 ml[j].nm, .slice va ml[j].ps.length vc, .int .u8 ml[j].rs] 29)).heap[S]? = some (.cells #[.int .u8 b0, .int .u8 b1] 22 (0, 0)) ∧ Below S w (wr.alloc (Obj.cells #[.int .u8 ml[j].nm, .slice va ml[j].ps.length vc, .int .u8 ml[j].rs] 29))) := ⟨Keeps.below hob _ _ hs, hB.trans (hob.mono (by omega))⟩
          clear hcell c0 c1 c2 hs hB hob
          by_cases hbig : 300 < ml[j].ps.length
          · have hbig' : (300 : Int) < (ml[j].ps.length : Int) := by omega
            generalize ml[j].ps.length = len at *
            generalize ml[j].nm = sel at *
            generalize ml[j].rs = rsel at *
            go_wp2_with fail
            go_ret
            exact ⟨rfl, by rw [hS]; exact HN.out.2⟩
          · have hbig' : ¬ (300 : Int) < (ml[j].ps.length : Int) := by omega
            have hd' : ∀ q (h : q < ml.length), q < j + 1 → ml[q].ps.length ≤ 300 := fun q h hq => by
              by_cases hqe : q = j
              · subst hqe; omega
              · exact hdone q h (by omega)
            have HD : Hid (∀ q (h : q < ml.length), q < j + 1 → ml[q].ps.length ≤ 300) := hd'
            clear hdone hd'
            generalize ml[j].ps.length = len at *
            generalize ml[j].nm = sel at *
            generalize ml[j].rs = rsel at *
            go_wp2_with fail
            go_roundw
            case rel => exact ⟨j + 1, by omega, by go_num, HD.out, HN.out.1, HN.out.2⟩
            case measure => simp [intOf]; omega
        · obtain rfl : j = ml.length := by omega
          have HMA : Hid (∀ q (h : q < ml.length), ml[q].ps.length ≤ 300) := fun q h => hdone q h h
          obtain ⟨i, hi3⟩ : ∃ i, at8 % 3 = i := ⟨_, rfl⟩
          obtain ⟨np, hn3⟩ : ∃ np, np8 % 3 = np := ⟨_, rfl⟩
          have hi : i < 3 := by omega
          have hn : np ≤ 2 := by omega
          have ei : (at8 : Int) % 3 = (i : Int) := by omega
          have en : (np8 : Int) % 3 = (np : Int) := by omega
          have HS2 : Hid (wr.heap[S]? = some (.cells #[.int .u8 b0, .int .u8 b1] 22 (0, 0)) ∧ Below S w wr) := ⟨hs, hB⟩
          clear hdone hs hB hSl
          go_wp2_with fail
          refine (name_any i hi _).mono ?_
          rintro e w0 ⟨rfl, rfl⟩
          have HL0 : Hid (LiSt S _ w _ b0 b1 t0 t1 t2 n0 n1 n2 (nameOf i) (.slice none 0 0) (.slice none 0 0) (.slice none 0 0)) := li_start t0 t1 t2 n0 n1 n2 (nameOf i) HS2.out.1 HS2.out.2
          clear HS2
          go_wp2_with fail
          generalize ((wr.alloc (.cells #[.int .i64 t0, .int .i64 t1, .int .i64 t2] 30)).alloc (.cells #[.int .i64 n0, .int .i64 n1, .int .i64 n2] 30)).alloc (.cells #[.int .i64 0, .int .i64 0, .string (nameOf i), .slice none 0 0, .slice none 0 0, .slice none 0 0] 81) = W2 at *
          generalize wr.heap.size = TN at *
          have hscl : (scopeOf np).length ≤ 100 := by unfold scopeOf; simp; omega
          obtain ⟨i47, hi47, hz47, hs47, hb47⟩ := info_parts info47
          have hbl : ((List.range np).map fun j => leaf t0 t1 t2 (scopeOf np) (tyName (bnd b0 b1 j) np)).length = np := by simp
          have hpl : (psOf np b0 b1).length = np := by simp [psOf]
          have HPL : Hid ((psOf np b0 b1).length = np) := hpl
          have hbsz : ∀ n, (semis (((List.range np).map fun j => leaf t0 t1 t2 (scopeOf np) (tyName (bnd b0 b1 j) np)).take n)).size ≤ n * 23 := semis_size _ 22 (fun a ha => by
            rw [List.mem_map] at ha
            obtain ⟨q, _, rfl⟩ := ha
            exact leaf_size f0 f1 f2 (scopeOf np) hscl _)
          have HBZ : Hid (∀ n, (semis (((List.range np).map fun j => leaf t0 t1 t2 (scopeOf np) (tyName (bnd b0 b1 j) np)).take n)).size ≤ n * 23) := hbsz
          clear hbsz hpl
          have hs83 : (⟨#[73, 60]⟩ : ByteArray).size = 2 := rfl
          go_loopw [32, 33] (fun tx x wr => ∃ j : Nat, j ≤ np ∧ x = .int .i64 j ∧ tx = .string (⟨#[73, 60]⟩ ++ semis (((List.range np).map fun j => leaf t0 t1 t2 (scopeOf np) (tyName (bnd b0 b1 j) np)).take j)) ∧ ∃ pv, wr.ownsRow (TN + 1 + 1 + 1) 47 7 pv j (((psOf np b0 b1).take j).flatMap parCells) ∧ LiSt S TN w wr b0 b1 t0 t1 t2 n0 n1 n2 (nameOf i) (pv) (.slice none 0 0) (.slice none 0 0)) (fun _ x _ => np - (intOf x).toNat)
          case atStart => exact ⟨0, Nat.zero_le _, rfl, by simp [semis], _, by simpa using World.ownsRow_nil _ _ _ _, HL0.out⟩
          case round =>
            obtain ⟨j, hj, rfl, rfl, pv, hown, hlw⟩ := hrel
            clear HL0
            have hbz := HBZ.out j
            have hasz : (⟨#[73, 60]⟩ ++ semis (((List.range np).map fun j => leaf t0 t1 t2 (scopeOf np) (tyName (bnd b0 b1 j) np)).take j)).size ≤ 1000 := by rw [ByteArray.size_append]; omega
            by_cases hlt : j < np
            · have hj2 : j < 2 := by omega
              have y0 : wr.cell? ⟨S, j, none⟩ = some (.int .u8 (bnd b0 b1 j)) := by
                match j, hj2 with
                | 0, _ => exact cell_row (j := 0) hlw.s rfl
                | 1, _ => exact cell_row (j := 1) hlw.s rfl
              have hbn : bnd b0 b1 j < 256 := by unfold bnd; split <;> omega
              have a0 := cell_row (j := 0) hlw.tn rfl
              have a1 := cell_row (j := 1) hlw.tn rfl
              have a2 := cell_row (j := 2) hlw.tn rfl
              have j0 : (0 : Int) ≤ (j : Int) := by omega
              have j1 : (j : Int) < 2 := by omega
              have j2 : (j : Int) < (np : Int) := by omega
              have hSl : S < wr.heap.size := (Array.getElem?_eq_some_iff.1 hlw.s).1
              have hTl : TN < wr.heap.size := (Array.getElem?_eq_some_iff.1 hlw.tn).1
              have o3 := hlw.o3
              have HSN : Hid (semis (((List.range np).map fun j => leaf t0 t1 t2 (scopeOf np) (tyName (bnd b0 b1 j) np)).take (j + 1)) = semis (((List.range np).map fun j => leaf t0 t1 t2 (scopeOf np) (tyName (bnd b0 b1 j) np)).take j) ++ leaf t0 t1 t2 (scopeOf np) (tyName (bnd b0 b1 j) np) ++ ⟨#[59]⟩) := by
                show _ = _
                rw [List.take_succ_eq_append_getElem (by simpa using hlt), semis_snoc]
                simp
              have HFL : Hid (((psOf np b0 b1).take (j + 1)).flatMap parCells = ((psOf np b0 b1).take j).flatMap parCells ++ parCells (pnameOf j, tyName (bnd b0 b1 j) np)) := by
                show _ = _
                rw [List.take_succ_eq_append_getElem (by rw [HPL.out]; exact hlt), List.flatMap_append]
                simp [psOf]
              have hlz := leaf_size f0 f1 f2 (scopeOf np) hscl (tyName (bnd b0 b1 j) np)
              have HCL : Hid (∀ W, Below wr.heap.size wr W → Calls Ybad.prog 6 #[.int .u8 (bnd b0 b1 j), .slice none 0 0, .int .i64 np, .agg #[.int .i64 t0, .int .i64 t1, .int .i64 t2]] W fun e w4 => e = .returned (.tuple #[.agg #[.int .i64 0, .int .i64 0, .string (tyName (bnd b0 b1 j) np), .slice none 0 0], .string (leaf t0 t1 t2 (scopeOf np) (tyName (bnd b0 b1 j) np))]) ∧ Below W.heap.size W w4) := fun W hW => by
                have hTb : Tab L W := HTAB.out.below (hlw.below hW).b hL
                refine (ty_any L (bnd b0 b1 j) np (.slice none 0 0) [] W t0 t1 t2 hbn hn hTb (by have := hW.size; omega) f0 f1 f2 ⟨none, 0, rfl, fun _ h => by simp at h, fun h => by simp at h⟩ (by simp)).mono ?_
                rintro e w4 ⟨av, rfl, _, hni, hb4⟩
                rw [hni rfl]
                refine ⟨?_, hb4⟩
                unfold drawn tyText tyV
                rw [tyArgs_nil, if_pos rfl]
              have HOW : Hid (wr.ownsRow (TN + 1 + 1 + 1) 47 7 pv j (((psOf np b0 b1).take j).flatMap parCells)) := hown
              have HLW : Hid (LiSt S TN w wr b0 b1 t0 t1 t2 n0 n1 n2 (nameOf i) (pv) (.slice none 0 0) (.slice none 0 0)) := hlw
              clear hown hlw
              generalize ((psOf np b0 b1).take j).flatMap parCells = pcs at *
              generalize semis (((List.range np).map fun j => leaf t0 t1 t2 (scopeOf np) (tyName (bnd b0 b1 j) np)).take j) = sj at *
              generalize leaf t0 t1 t2 (scopeOf np) (tyName (bnd b0 b1 j) np) = lf at *
              generalize tyName (bnd b0 b1 j) np = tx at *
              generalize bnd b0 b1 j = bj at *
              go_wp2_with fail
              go_cut [34, 35] (fun a tq wc => ∃ K, a = .pointer (some ⟨K, 0, none⟩) ∧ tq = .string lf ∧ wc.heap[K]? = some (.cells #[.int .i64 0, .int .i64 0, .string tx, .slice none 0 0] 43 (0, 0)) ∧ wc.ownsRow (TN + 1 + 1 + 1) 47 7 pv j pcs ∧ LiSt S TN w wc b0 b1 t0 t1 t2 n0 n1 n2 (nameOf i) (pv) (.slice none 0 0) (.slice none 0 0))
              case first =>
                go_region_law (first | (go_simp; go_at_call 6; refine (HCL.out _ ?_).mono ?_; (exact ⟨rfl, rfl, rfl, Nat.le_refl _, fun _ _ => rfl⟩); rintro e w4 ⟨rfl, hb4⟩; have hbq : Below wr.heap.size wr w4 := ⟨hb4.os, hb4.tape, hb4.output, hb4.size, hb4.block⟩) | (go_simp; go_at_call 6; refine (HCL.out _ ?_).mono ?_; (exact ⟨rfl, rfl, rfl, by simp, fun k hk => heap_alloc_oldD wr _ hk⟩); rintro e w4 ⟨rfl, hb4⟩; have hz4 : wr.heap.size + 1 ≤ w4.heap.size := (by have := hb4.size; simpa using this); have hbq : Below wr.heap.size wr w4 := ⟨hb4.os, hb4.tape, hb4.output, (by omega), fun k hk => (hb4.block k (by simp; omega)).trans (heap_alloc_oldD wr _ hk)⟩; have hr4 := (hb4.block wr.heap.size (by simp)).trans (heap_alloc_newD wr _); have v0 := cell_row (j := 0) hr4 rfl; have v1 := cell_row (j := 1) hr4 rfl; have v2 := cell_row (j := 2) hr4 rfl; have v3 := cell_row (j := 3) hr4 rfl; have vf : ∀ j, w4.frozen? ⟨wr.heap.size, j, none⟩ = false := fun j => (by simp [World.frozen?, hr4])))
                all_goals go_wp2_with fail
                all_goals go_meet
                all_goals (case rel => first | (obtain ⟨p1, p2⟩ := row43_set (x := tx) (v := .slice none 0 0) rfl hbq hr4; exact ⟨_, rfl, rfl, p2, owns_below HOW.out p1, HLW.out.below p1⟩) | (obtain ⟨p1, p2⟩ := row43_new (x := tx) (v := .slice none 0 0) hbq; exact ⟨_, rfl, rfl, p2, owns_below HOW.out p1, HLW.out.below p1⟩))
              case rest =>
                obtain ⟨K, rfl, rfl, hK, hown, hlw⟩ := hcut
                clear HOW HLW HCL y0 a0 a1 a2 hSl hTl o3
                have u0 := cell_row (j := 0) hK rfl
                have u1 := cell_row (j := 1) hK rfl
                have u2 := cell_row (j := 2) hK rfl
                have u3 := cell_row (j := 3) hK rfl
                have d3 := cell_row (j := 3) hlw.d rfl
                have df : ∀ j, wc.frozen? ⟨TN + 1 + 1, j, none⟩ = false := fun j => by simp [World.frozen?, hlw.d]
                have hKl : K < wc.heap.size := (Array.getElem?_eq_some_iff.1 hK).1
                have o3 := hlw.o3
                have hDl : TN + 1 + 1 < wc.heap.size := by omega
                have HOW : Hid (wc.ownsRow (TN + 1 + 1 + 1) 47 7 pv j pcs) := hown
                have HLW : Hid (LiSt S TN w wc b0 b1 t0 t1 t2 n0 n1 n2 (nameOf i) (pv) (.slice none 0 0) (.slice none 0 0)) := hlw
                clear hown hlw hK
                go_wp2_with fail
                go_cut [] (fun wd => ∃ pv', wd.ownsRow (TN + 1 + 1 + 1) 47 7 pv' (j + 1) (pcs ++ parCells (pnameOf j, tx)) ∧ LiSt S TN w wd b0 b1 t0 t1 t2 n0 n1 n2 (nameOf i) (pv') (.slice none 0 0) (.slice none 0 0))
                case first =>
                  go_region_law (first | (refine step_append_lies _ (by rfl) (.tmp 119) (.tmp 125) 37 (by rfl) (TN + 1 + 1 + 1) 47 i47 _ 7 88 Ybad.underlying37 hi47 hz47 hs47 hb47 (by rfl) (by decide) pv j pcs (by rfl) (by exact HOW.out.alloc _) _ 1 1 (parCells (pnameOf j, tx)) (by rfl) (by rfl) (by exact World.news_of_block (cs := #[.int .i64 0, .int .i64 0, .string (pnameOf j), .int .i64 0, .int .i64 0, .string tx, .slice none 0 0]) (heap_alloc_newD wc _)) (by intro u hu; simp [parCells] at hu; rcases hu with rfl | rfl | rfl | rfl | rfl <;> rfl) (by decide) (by unfold maxLen; omega) (by omega) (by simp; omega) _ rfl ?_; intro g5 cap5 w2 hown5 hgrow5 hat5 hlt5; have hgr : (wc.alloc (.cells #[.int .i64 0, .int .i64 0, .string (pnameOf j), .int .i64 0, .int .i64 0, .string tx, .slice none 0 0] 47)).grownBy w2 pv.ownBlock := ⟨hgrow5.os, hgrow5.tape, hgrow5.output, hgrow5.size, hgrow5.block⟩; have hG := grew (i := 3) HOW.out HLW.out.d (Nat.lt_succ_self _) o3 hgr hown5; have hd5 := far_row HOW.out HLW.out.d (Nat.lt_succ_self _) o3 hgr; have d35 := cell_row (j := 3) hd5 rfl; have df5 : ∀ j, w2.frozen? ⟨TN + 1 + 1, j, none⟩ = false := fun j => (by simp [World.frozen?, hd5])) | (go_simp; go_at_call 7; refine (pname_any j hj2 _).mono ?_; rintro e w1' ⟨rfl, rfl⟩))
                  all_goals go_wp2_with fail
                  all_goals go_meet
                  all_goals (case rel => exact ⟨_, hG.own, HLW.out.grewP hG⟩)
                case rest =>
                  obtain ⟨pv', hown', hlw'⟩ := hcut
                  clear HOW HLW u0 u1 u2 u3 d3 df hKl hDl o3
                  have hs59 : (⟨#[59]⟩ : ByteArray).size = 1 := rfl
                  have hsum : (lf ++ ⟨#[59]⟩).size ≤ 23 := by rw [ByteArray.size_append]; omega
                  go_wp2_with fail
                  go_roundw
                  case rel => exact ⟨j + 1, by omega, by go_num, by rw [HSN.out]; simp [ByteArray.append_assoc], pv', by rw [HFL.out]; exact hown', hlw'⟩
                  case measure => simp [intOf]; omega
            · obtain rfl : np = j := by omega
              have e1 : ((List.range np).map fun j => leaf t0 t1 t2 (scopeOf np) (tyName (bnd b0 b1 j) np)).take np = ((List.range np).map fun j => leaf t0 t1 t2 (scopeOf np) (tyName (bnd b0 b1 j) np)) := List.take_of_length_le (by simp)
              have e2 : (psOf np b0 b1).take np = (psOf np b0 b1) := List.take_of_length_le (by rw [HPL.out]; exact Nat.le_refl _)
              rw [e2] at hown
              have hpr : ParRow wr pv (psOf np b0 b1) := parRow_own (B := TN + 1 + 1 + 1) (by rw [HPL.out]; exact hown)
              obtain ⟨pa, pc, hpv, _⟩ := id hpr
              rw [HPL.out] at hpv
              subst hpv
              rw [e1] at hasz
              rw [e1]
              have HLW : Hid (LiSt S TN w wr b0 b1 t0 t1 t2 n0 n1 n2 (nameOf i) (.slice pa np pc) (.slice none 0 0) (.slice none 0 0)) := hlw
              have HPR : Hid (ParRow wr (.slice pa np pc) (psOf np b0 b1)) := hpr
              clear hown hlw hpr e1 e2 HBZ hbl
              generalize hw1 : semis ((List.range np).map fun j => leaf t0 t1 t2 (scopeOf np) (tyName (bnd b0 b1 j) np)) = sb at *
              have HSB : Hid (semis ((List.range np).map fun j => leaf t0 t1 t2 (scopeOf np) (tyName (bnd b0 b1 j) np)) = sb) := hw1
              clear hw1
              have hs2 : (⟨#[62]⟩ : ByteArray).size = 1 := rfl
              have hA1 : (⟨#[73, 60]⟩ ++ sb ++ ⟨#[62]⟩).size ≤ 1001 := by rw [ByteArray.size_append]; omega
              go_wp2_with fail
              generalize hac : ⟨#[73, 60]⟩ ++ sb ++ ⟨#[62]⟩ = acc1 at *
              have HAC1 : Hid (⟨#[73, 60]⟩ ++ sb ++ ⟨#[62]⟩ = acc1) := hac
              clear hac
              obtain ⟨i83, hi83, hz83, hs83', hb83⟩ := info_parts info83
              obtain ⟨i9, hi9, hz9, hs9, hb9⟩ := info_parts info9
              go_loopw [36, 137] (fun tv x wr => ∃ j : Nat, j ≤ ml.length ∧ x = .int .i64 j ∧ wr.ownsRow (TN + 1 + 1 + 1) 9 1 tv j (((ml.map fun m => (mdOf np m).spec t0 t1 t2 n0 n1 n2 (scopeOf np)).take j).map Value.string) ∧ ParRow wr (.slice pa np pc) (psOf np b0 b1) ∧ ∃ mv l, l.length = j ∧ wr.ownsRow (TN + 1 + 1 + 1) 83 9 mv j (l.flatMap spCells) ∧ MatchS wr l ((ml.map fun m => mdOf np m).take j) ∧ LiSt S TN w wr b0 b1 t0 t1 t2 n0 n1 n2 (nameOf i) (.slice pa np pc) (mv) (.slice none 0 0)) (fun _ x _ => ml.length - (intOf x).toNat)
              case atStart => exact ⟨0, Nat.zero_le _, rfl, by simpa using World.ownsRow_nil _ _ _ _, HPR.out, _, [], rfl, by simpa using World.ownsRow_nil _ _ _ _, by simpa using MatchS.nil _, HLW.out⟩
              case round =>
                obtain ⟨j, hj, rfl, htx, hpr, mv, l, hlj, hown, hm, hlw⟩ := hrel
                clear HLW HPR
                by_cases hlt : j < ml.length
                · obtain ⟨g, o, rfl, hcell⟩ := HM.out (by omega)
                  obtain ⟨h256, h257, c0, c2, av, c1, hu⟩ := hcell j hlt
                  have hgS : g < S := by rw [← hS]; exact World.block_lt_of_cell? w _ c0
                  have c0' := (hlw.b.cell (p := ⟨g, o + j * 3, none⟩) hgS).trans c0
                  have c1' := (hlw.b.cell (p := ⟨g, o + j * 3 + 1, none⟩) hgS).trans c1
                  have c2' := (hlw.b.cell (p := ⟨g, o + j * 3 + 2, none⟩) hgS).trans c2
                  have hlen := HMA.out j hlt
                  have hTl : TN < wr.heap.size := (Array.getElem?_eq_some_iff.1 hlw.tn).1
                  have hNl : TN + 1 < wr.heap.size := (Array.getElem?_eq_some_iff.1 hlw.nn).1
                  have a0 := cell_row (j := 0) hlw.tn rfl
                  have a1 := cell_row (j := 1) hlw.tn rfl
                  have a2 := cell_row (j := 2) hlw.tn rfl
                  have e0 := cell_row (j := 0) hlw.nn rfl
                  have e1 := cell_row (j := 1) hlw.nn rfl
                  have e2 := cell_row (j := 2) hlw.nn rfl
                  obtain ⟨va, vc, rfl, hjk⟩ := id hu
                  clear hjk
                  have hbo := (Below.refl _ wr).alloc (Nat.le_refl _) (Obj.cells #[.int .u8 ml[j].nm, .slice va ml[j].ps.length vc, .int .u8 ml[j].rs] 29)
                  have hlwX := hlw.below hbo
                  have hSw : S ≤ wr.heap.size := by have := hlw.b.size; omega
                  have HCL : Hid (Calls Ybad.prog 8 _ (wr.alloc (Obj.cells #[.int .u8 ml[j].nm, .slice va ml[j].ps.length vc, .int .u8 ml[j].rs] 29)) _) := sg_any L ml[j].nm ml[j].rs np (.slice va ml[j].ps.length vc) ml[j].ps _ t0 t1 t2 n0 n1 n2 h256 h257 hn (HTAB.out.below hlwX.b hL) (by have := hbo.size; omega) f0 f1 f2 g0 g1 g2 ((hu.below (show Below w.heap.size w wr by rw [hS]; exact hlw.b)).below hbo) hlen
                  have HSN : Hid (((ml.map fun m => (mdOf np m).spec t0 t1 t2 n0 n1 n2 (scopeOf np)).take (j + 1)).map Value.string = ((ml.map fun m => (mdOf np m).spec t0 t1 t2 n0 n1 n2 (scopeOf np)).take j).map Value.string ++ [.string ((mdOf np ml[j]).spec t0 t1 t2 n0 n1 n2 (scopeOf np))]) := by
                    show _ = _
                    rw [List.take_succ_eq_append_getElem (by simpa using hlt)]
                    simp
                  have HFL : Hid ((ml.map fun m => mdOf np m).take (j + 1) = (ml.map fun m => mdOf np m).take j ++ [mdOf np ml[j]]) := by
                    show _ = _
                    rw [List.take_succ_eq_append_getElem (by simpa using hlt)]
                    simp
                  have HTXE : Hid ((mdOf np ml[j]).spec t0 t1 t2 n0 n1 n2 (scopeOf np) = ⟨#[109]⟩ ++ num (tn3 n0 n1 n2 (ml[j].nm % 3)) ++ sigText t0 t1 t2 (scopeOf np) (ml[j].ps.map fun a => (tyName a np, [])) (tyName ml[j].rs np) []) := rfl
                  have hsgz : (sigText t0 t1 t2 (scopeOf np) (ml[j].ps.map fun a => (tyName a np, [])) (tyName ml[j].rs np) []).size ≤ 3000000 := sigText_size f0 f1 f2 (scopeOf np) hscl _ (by simpa using hlen) (fun q hq => by
                    rw [List.mem_map] at hq
                    obtain ⟨a, _, rfl⟩ := hq
                    simp) _ [] (by simp)
                  have hnz := num_size _ (fits_tn g0 g1 g2 (ml[j].nm % 3))
                  have HME : Hid (∀ (W : World) (ls : List ((ByteArray × ByteArray) × (Value × Value))) (mss : List MD) (pv' rav' : Value), MatchS W ls mss → FldRow W pv' (ml[j].ps.map fun a => (tyName a np, [])) → TyArgs W rav' [] → MatchS W (ls ++ [((mnameOf (ml[j].nm % 3), tyName ml[j].rs np), (pv', rav'))]) (mss ++ [mdOf np ml[j]])) := fun W ls mss pv' rav' x1 x2 x3 => x1.snoc (mdOf np ml[j]) _ _ pv' rav' rfl (mdOf_plain np ml[j]) x2 x3
                  have HLW : Hid (LiSt S TN w _ b0 b1 t0 t1 t2 n0 n1 n2 (nameOf i) (.slice pa np pc) (mv) (.slice none 0 0)) := hlwX
                  have HPR : Hid (ParRow _ (.slice pa np pc) (psOf np b0 b1)) := hpr.below hbo
                  have HOW : Hid (World.ownsRow _ (TN + 1 + 1 + 1) 83 9 mv j (l.flatMap spCells)) := owns_below hown hbo
                  have HMT : Hid (MatchS _ l ((ml.map fun m => mdOf np m).take j)) := hm.keeps (Keeps.below hbo)
                  have HTX : Hid (World.ownsRow _ (TN + 1 + 1 + 1) 9 1 u36 j (((ml.map fun m => (mdOf np m).spec t0 t1 t2 n0 n1 n2 (scopeOf np)).take j).map Value.string)) := owns_below htx hbo
                  clear hlwX hlw hpr hown hm htx hu hcell c0 c1 c2 hbo
                  generalize (ml.map fun m => mdOf np m).take j = mj at *
                  generalize ((ml.map fun m => (mdOf np m).spec t0 t1 t2 n0 n1 n2 (scopeOf np)).take j).map Value.string = xj at *
                  generalize (mdOf np ml[j]).spec t0 t1 t2 n0 n1 n2 (scopeOf np) = tj at *
                  generalize mdOf np ml[j] = mdj at *
                  generalize num (tn3 n0 n1 n2 (ml[j].nm % 3)) = nj at *
                  generalize mnameOf (ml[j].nm % 3) = mk at *
                  generalize tyName ml[j].rs np = rx at *
                  generalize sigText t0 t1 t2 (scopeOf np) (ml[j].ps.map fun a => (tyName a np, [])) rx [] = sg at *
                  generalize (ml[j].ps.map fun a => (tyName a np, ([] : List ByteArray))) = fj at *
                  generalize ml[j].ps.length = len at *
                  generalize ml[j].nm = sel at *
                  generalize ml[j].rs = rsel at *
                  go_wp2_with fail
                  refine HCL.out.mono ?_
                  rintro e w4 ⟨pv', rav', rfl, hfl4, hta4, hb4⟩
                  clear HCL
                  obtain ⟨xa, xc, rfl, hjk⟩ := id hfl4
                  clear hjk
                  obtain ⟨ya, yc, hyv, hjk⟩ := id hta4
                  clear hjk
                  rw [List.length_nil] at hyv
                  subst hyv
                  unfold sigV
                  have hY4 := two_below w4 (Obj.cells #[.int .i64 0, .int .i64 0, .string mk] 36) (Obj.cells #[.slice none 0 0, .slice xa fj.length xc, .int .i64 0, .int .i64 0, .string rx, .slice ya 0 yc] 53)
                  obtain ⟨hA36, hA53⟩ := two_rows w4 (Obj.cells #[.int .i64 0, .int .i64 0, .string mk] 36) (Obj.cells #[.slice none 0 0, .slice xa fj.length xc, .int .i64 0, .int .i64 0, .string rx, .slice ya 0 yc] 53)
                  have hYX := hb4.trans (hY4.mono hb4.size)
                  have HY : Hid (LiSt S TN w _ b0 b1 t0 t1 t2 n0 n1 n2 (nameOf i) (.slice pa np pc) (mv) (.slice none 0 0) ∧ ParRow _ (.slice pa np pc) (psOf np b0 b1) ∧ World.ownsRow _ (TN + 1 + 1 + 1) 83 9 mv j (l.flatMap spCells) ∧ MatchS _ l mj ∧ World.ownsRow _ (TN + 1 + 1 + 1) 9 1 u36 j xj ∧ FldRow _ (.slice xa fj.length xc) fj ∧ TyArgs _ (.slice ya 0 yc) [] ∧ _ = some (Obj.cells #[.int .i64 0, .int .i64 0, .string mk] 36) ∧ _ = some (Obj.cells #[.slice none 0 0, .slice xa fj.length xc, .int .i64 0, .int .i64 0, .string rx, .slice ya 0 yc] 53)) :=
                    ⟨HLW.out.below hYX, HPR.out.below hYX, owns_below HOW.out hYX, HMT.out.keeps (Keeps.below hYX), owns_below HTX.out hYX, hfl4.below hY4, hta4.below hY4, hA36, hA53⟩
                  clear hY4 hA36 hA53 hYX hfl4 hta4 hb4 HLW HPR HOW HMT HTX c0' c1' c2' a0 a1 a2 e0 e1 e2 hTl hNl
                  go_wp2_with fail
                  generalize (w4.alloc (Obj.cells #[.int .i64 0, .int .i64 0, .string mk] 36)).alloc (Obj.cells #[.slice none 0 0, .slice xa fj.length xc, .int .i64 0, .int .i64 0, .string rx, .slice ya 0 yc] 53) = W5 at *
                  generalize w4.heap.size = K at *
                  obtain ⟨hlw, hpr, hown, hm, htx, hfl5, hta5, hK36, hK53⟩ := HY.out
                  clear HY
                  have u0 := cell_row (j := 0) hK36 rfl
                  have u1 := cell_row (j := 1) hK36 rfl
                  have u2 := cell_row (j := 2) hK36 rfl
                  have v0 := cell_row (j := 0) hK53 rfl
                  have v1 := cell_row (j := 1) hK53 rfl
                  have v2 := cell_row (j := 2) hK53 rfl
                  have v3 := cell_row (j := 3) hK53 rfl
                  have v4 := cell_row (j := 4) hK53 rfl
                  have v5 := cell_row (j := 5) hK53 rfl
                  have d4 := cell_row (j := 4) hlw.d rfl
                  have df : ∀ j, W5.frozen? ⟨TN + 1 + 1, j, none⟩ = false := fun j => by simp [World.frozen?, hlw.d]
                  have hKl : K < W5.heap.size := (Array.getElem?_eq_some_iff.1 hK36).1
                  have hKl1 : K + 1 < W5.heap.size := (Array.getElem?_eq_some_iff.1 hK53).1
                  have o3 := hlw.o3
                  have hDl : TN + 1 + 1 < W5.heap.size := by omega
                  have HOW : Hid (W5.ownsRow (TN + 1 + 1 + 1) 83 9 mv j (l.flatMap spCells)) := hown
                  have HLW : Hid (LiSt S TN w W5 b0 b1 t0 t1 t2 n0 n1 n2 (nameOf i) (.slice pa np pc) (mv) (.slice none 0 0)) := hlw
                  have HR5 : Hid (ParRow W5 (.slice pa np pc) (psOf np b0 b1) ∧ MatchS W5 l mj ∧ W5.ownsRow (TN + 1 + 1 + 1) 9 1 u36 j xj ∧ FldRow W5 (.slice xa fj.length xc) fj ∧ TyArgs W5 (.slice ya 0 yc) []) := ⟨hpr, hm, htx, hfl5, hta5⟩
                  clear hown hlw hK36 hK53 hpr hm htx hfl5 hta5
                  go_cut [] (fun wd => ∃ mv', wd.ownsRow (TN + 1 + 1 + 1) 83 9 mv' (j + 1) (l.flatMap spCells ++ spCells ((mk, rx), (.slice xa fj.length xc, .slice ya 0 yc))) ∧ MatchS wd (l ++ [((mk, rx), (.slice xa fj.length xc, .slice ya 0 yc))]) (mj ++ [mdj]) ∧ ParRow wd (.slice pa np pc) (psOf np b0 b1) ∧ wd.ownsRow (TN + 1 + 1 + 1) 9 1 u36 j xj ∧ LiSt S TN w wd b0 b1 t0 t1 t2 n0 n1 n2 (nameOf i) (.slice pa np pc) (mv') (.slice none 0 0))
                  case first =>
                    go_region_law ((refine step_append_lies _ (by rfl) (.tmp 155) (.tmp 159) 79 (by rfl) (TN + 1 + 1 + 1) 83 i83 _ 9 136 Ybad.underlying79 hi83 hz83 hs83' hb83 (by rfl) (by decide) mv j (l.flatMap spCells) (by rfl) (by exact HOW.out.alloc _) _ 1 1 (spCells ((mk, rx), (.slice xa fj.length xc, .slice ya 0 yc))) (by rfl) (by rfl) (by exact World.news_of_block (cs := #[.int .i64 0, .int .i64 0, .string mk, .slice none 0 0, .slice xa fj.length xc, .int .i64 0, .int .i64 0, .string rx, .slice ya 0 yc]) (heap_alloc_newD W5 _)) (by intro u hu; simp [spCells, specCells] at hu; rcases hu with rfl | rfl | rfl | rfl | rfl | rfl | rfl <;> rfl) (by decide) (by unfold maxLen; omega) (by omega) (by simp; omega) _ rfl ?_; intro g5 cap5 w2 hown5 hgrow5 hat5 hlt5; have hgr : (W5.alloc (.cells #[.int .i64 0, .int .i64 0, .string mk, .slice none 0 0, .slice xa fj.length xc, .int .i64 0, .int .i64 0, .string rx, .slice ya 0 yc] 83)).grownBy w2 mv.ownBlock := ⟨hgrow5.os, hgrow5.tape, hgrow5.output, hgrow5.size, hgrow5.block⟩; have hG := grew (i := 4) HOW.out HLW.out.d (Nat.lt_succ_self _) o3 hgr hown5; have hd5 := far_row HOW.out HLW.out.d (Nat.lt_succ_self _) o3 hgr; have d45 := cell_row (j := 4) hd5 rfl; have df5 : ∀ j, w2.frozen? ⟨TN + 1 + 1, j, none⟩ = false := fun j => (by simp [World.frozen?, hd5])))
                    all_goals go_wp2_with fail
                    all_goals go_meet
                    all_goals (case rel => exact ⟨_, hG.own, HME.out _ _ _ _ _ (HR5.out.2.1.keeps (hG.keeps 49 (by decide) (by decide))) (HR5.out.2.2.2.1.keeps (hG.keeps 43 (by decide) (by decide)) (hG.keeps 49 (by decide) (by decide))) (HR5.out.2.2.2.2.keeps (hG.keeps 43 (by decide) (by decide))), HR5.out.1.keeps (hG.keeps 47 (by decide) (by decide)), owns_keeps HR5.out.2.2.1 (hG.keeps 9 (by decide) (by decide)), HLW.out.grewS hG⟩)
                  case rest =>
                    obtain ⟨mv', hown', hm', hpr', htx', hlw'⟩ := hcut
                    clear HOW HLW HR5 u0 u1 u2 v0 v1 v2 v3 v4 v5 d4 df hKl hKl1 hDl o3 HME
                    have HN : Hid (wc.ownsRow (TN + 1 + 1 + 1) 83 9 mv' (j + 1) (l.flatMap spCells ++ spCells ((mk, rx), (.slice xa fj.length xc, .slice ya 0 yc))) ∧ MatchS wc (l ++ [((mk, rx), (.slice xa fj.length xc, .slice ya 0 yc))]) (mj ++ [mdj]) ∧ ParRow wc (.slice pa np pc) (psOf np b0 b1) ∧ LiSt S TN w wc b0 b1 t0 t1 t2 n0 n1 n2 (nameOf i) (.slice pa np pc) (mv') (.slice none 0 0)) := ⟨hown', hm', hpr', hlw'⟩
                    have HX5 : Hid (wc.ownsRow (TN + 1 + 1 + 1) 9 1 u36 j xj) := htx'
                    have hT5 : TN + 1 + 1 + 1 ≤ wc.heap.size := hlw'.o3
                    have q5 : j + 1 ≤ maxLen := by unfold maxLen; omega
                    have q6 : (j + 1) * 16 ≤ 140737488355328 := by omega
                    have hs109 : (⟨#[109]⟩ : ByteArray).size = 1 := rfl
                    have z1 : (⟨#[109]⟩ ++ nj : ByteArray).size ≤ 22 := by rw [ByteArray.size_append]; omega
                    clear hown' hm' hpr' htx' hlw'
                    go_wp2_with (at_builtin; refine wpList_append_lies _ rfl _ _ 51 rfl (TN + 1 + 1 + 1) 9 i9 _ 1 16 Ybad.underlying51 hi9 hz9 hs9 hb9 rfl (by decide) _ j _ rfl (HX5.out.alloc _) _ 1 1 [.string (⟨#[109]⟩ ++ nj ++ sg)] rfl rfl ?c1 ?c2 (by decide) q5 q6 ?c5 _ rfl ?_)
                    case c1 => exact World.news_of_block (cs := #[.string (⟨#[109]⟩ ++ nj ++ sg)]) (heap_alloc_newD _ _)
                    case c2 => intro u hu; simp at hu; subst hu; rfl
                    case c5 => simp; omega
                    intro g6 cap6 w6 hown6 hgrow6 hat6 hlt6
                    have hG6 := grewA HX5.out hgrow6
                    rw [← HTXE.out] at hown6
                    have HN6 : Hid (w6.ownsRow (TN + 1 + 1 + 1) 9 1 (.slice (some ⟨g6, 0, none⟩) (j + 1) cap6) (j + 1) (xj ++ [.string tj]) ∧ w6.ownsRow (TN + 1 + 1 + 1) 83 9 mv' (j + 1) (l.flatMap spCells ++ spCells ((mk, rx), (.slice xa fj.length xc, .slice ya 0 yc))) ∧ MatchS w6 (l ++ [((mk, rx), (.slice xa fj.length xc, .slice ya 0 yc))]) (mj ++ [mdj]) ∧ ParRow w6 (.slice pa np pc) (psOf np b0 b1) ∧ LiSt S TN w w6 b0 b1 t0 t1 t2 n0 n1 n2 (nameOf i) (.slice pa np pc) (mv') (.slice none 0 0)) :=
                      ⟨hown6, owns_keeps HN.out.1 (hG6.keeps 83 (by decide)), HN.out.2.1.keeps (hG6.keeps 49 (by decide)), HN.out.2.2.1.keeps (hG6.keeps 47 (by decide)), HN.out.2.2.2.grown hG6 (by decide) (by decide) (by decide)⟩
                    clear HN HX5 hown6 hgrow6 hat6 hG6
                    go_wp2_with fail
                    go_roundw
                    case rel => exact ⟨j + 1, by omega, by go_num, by rw [HSN.out]; exact HN6.out.1, HN6.out.2.2.2.1, mv', l ++ [((mk, rx), (.slice xa fj.length xc, .slice ya 0 yc))], by simp [hlj], by rw [List.flatMap_append]; simpa using HN6.out.2.1, by rw [HFL.out]; exact HN6.out.2.2.1, HN6.out.2.2.2.2⟩
                    case measure => simp [intOf]; omega
                · obtain rfl : j = ml.length := by omega
                  have e1 : (ml.map fun m => mdOf np m).take ml.length = (ml.map fun m => mdOf np m) := List.take_of_length_le (by simp)
                  have e2 : (ml.map fun m => (mdOf np m).spec t0 t1 t2 n0 n1 n2 (scopeOf np)).take ml.length = (ml.map fun m => (mdOf np m).spec t0 t1 t2 n0 n1 n2 (scopeOf np)) := List.take_of_length_le (by simp)
                  have hlT : (ml.map fun m => (mdOf np m).spec t0 t1 t2 n0 n1 n2 (scopeOf np)).length = ml.length := by simp
                  have hlM : (ml.map fun m => mdOf np m).length = ml.length := by simp
                  rw [e1] at hm
                  rw [e2] at htx
                  have hsp := specRow_own (by rw [hlj]; exact hown) hm
                  obtain ⟨m2a, m2c, hmv, hjk⟩ := id hsp
                  clear hjk
                  rw [hlM] at hmv
                  subst hmv
                  have hsc : Scope wr u36 (ml.map fun m => (mdOf np m).spec t0 t1 t2 n0 n1 n2 (scopeOf np)) := strs_row (T := TN + 1 + 1 + 1) (by rw [hlT]; exact htx)
                  obtain ⟨sa, sc, hsv, hjk⟩ := id hsc
                  clear hjk
                  rw [hlT] at hsv
                  subst hsv
                  have HSP : Hid (wr.ownsRow (TN + 1 + 1 + 1) 83 9 (.slice m2a ml.length m2c) ml.length (l.flatMap spCells) ∧ MatchS wr l (ml.map fun m => mdOf np m) ∧ ParRow wr (.slice pa np pc) (psOf np b0 b1) ∧ wr.ownsRow (TN + 1 + 1 + 1) 9 1 (.slice sa ml.length sc) ml.length ((ml.map fun m => (mdOf np m).spec t0 t1 t2 n0 n1 n2 (scopeOf np)).map Value.string) ∧ LiSt S TN w wr b0 b1 t0 t1 t2 n0 n1 n2 (nameOf i) (.slice pa np pc) (.slice m2a ml.length m2c) (.slice none 0 0)) := ⟨hown, hm, hpr, htx, hlw⟩
                  have HSB2 : Hid (∀ k, (Value.slice sa ml.length sc).ownBlock = some k → k < wr.heap.size) := fun k hk => (htx.lt k hk).2
                  clear hown hm hpr htx hlw hsp hsc e1 e2 hlT hlM
                  obtain ⟨i43, hi43, hz43, hs43, hb43⟩ := info_parts info43
                  have HFSL : Hid ((fsOf np fl).length = fl.length) := by show _ = _; simp [fsOf]
                  go_wp2_with fail
                  have hT2 : ∃ T2, wr.heap.size = T2 := ⟨_, rfl⟩
                  obtain ⟨T2, hT2⟩ := hT2
                  rw [hT2] at HSB2
                  have hTT : TN + 1 + 1 + 1 ≤ T2 := by rw [← hT2]; exact HSP.out.2.2.2.2.o3
                  clear hj hlt
                  go_loopw [43, 172] (fun tv x wr => ∃ j : Nat, j ≤ fl.length ∧ x = .int .i64 j ∧ wr.ownsRow T2 9 1 tv j (((fl.map fun q => drawn t0 t1 t2 q.1 np q.2).take j).map Value.string) ∧ (wr.ownsRow (TN + 1 + 1 + 1) 83 9 (.slice m2a ml.length m2c) ml.length (l.flatMap spCells) ∧ MatchS wr l (ml.map fun m => mdOf np m) ∧ ParRow wr (.slice pa np pc) (psOf np b0 b1) ∧ wr.ownsRow (TN + 1 + 1 + 1) 9 1 (.slice sa ml.length sc) ml.length ((ml.map fun m => (mdOf np m).spec t0 t1 t2 n0 n1 n2 (scopeOf np)).map Value.string)) ∧ T2 ≤ wr.heap.size ∧ ∃ ev le, le.length = j ∧ wr.ownsRow (TN + 1 + 1 + 1) 43 4 ev j (le.flatMap embCells) ∧ MatchE wr ev.ownBlock le ((fsOf np fl).take j) ∧ LiSt S TN w wr b0 b1 t0 t1 t2 n0 n1 n2 (nameOf i) (.slice pa np pc) (.slice m2a ml.length m2c) (ev)) (fun _ x _ => fl.length - (intOf x).toNat)
                  case atStart => exact ⟨0, Nat.zero_le _, rfl, by simpa using World.ownsRow_nil _ _ _ _, ⟨HSP.out.1, HSP.out.2.1, HSP.out.2.2.1, HSP.out.2.2.2.1⟩, by rw [hT2]; exact Nat.le_refl _, _, [], rfl, by simpa using World.ownsRow_nil _ _ _ _, by simpa using MatchE.nil _ _, HSP.out.2.2.2.2⟩
                  case round =>
                    obtain ⟨j, hj, rfl, htx, hspx, hT2s, ev, le, hlj2, hown, hm, hlw⟩ := hrel
                    clear HSP hT2
                    by_cases hlt : j < fl.length
                    · obtain ⟨g, o, rfl, hcell⟩ := HF.out (by omega)
                      obtain ⟨h256, c0, av, c1, hu⟩ := hcell j hlt
                      have hgS : g < S := by rw [← hS]; exact World.block_lt_of_cell? w _ c0
                      have c0' := (hlw.b.cell (p := ⟨g, o + j * 2, none⟩) hgS).trans c0
                      have c1' := (hlw.b.cell (p := ⟨g, o + j * 2 + 1, none⟩) hgS).trans c1
                      have hlen := HFA.out j hlt
                      have hSl : S < wr.heap.size := (Array.getElem?_eq_some_iff.1 hlw.s).1
                      have hTl : TN < wr.heap.size := (Array.getElem?_eq_some_iff.1 hlw.tn).1
                      have a0 := cell_row (j := 0) hlw.tn rfl
                      have a1 := cell_row (j := 1) hlw.tn rfl
                      have a2 := cell_row (j := 2) hlw.tn rfl
                      obtain ⟨va, vc, rfl, hjk⟩ := id hu
                      clear hjk
                      have hevf : ∃ ea ec, ev = .slice ea j ec := by
                        rcases hown.2 with ⟨h, hz⟩ | ⟨g', cap', cur', h, _⟩
                        · exact ⟨none, 0, by rw [h, hz]⟩
                        · exact ⟨_, cap', h⟩
                      obtain ⟨ea, ec, rfl⟩ := hevf
                      have hevl : ∀ k, (Value.slice ea j ec).ownBlock = some k → k < wr.heap.size := fun k hk => (hown.lt k hk).2
                      have hbo := (Below.refl _ wr).alloc (Nat.le_refl _) (Obj.cells #[.int .u8 fl[j].1, .slice va fl[j].2.length vc] 27)
                      have hbz := hbo.size
                      have hlwX := hlw.below hbo
                      have HCL : Hid (Calls Ybad.prog 6 _ (wr.alloc (Obj.cells #[.int .u8 fl[j].1, .slice va fl[j].2.length vc] 27)) _) := ty_anyF L fl[j].1 np (.slice va fl[j].2.length vc) fl[j].2 _ t0 t1 t2 h256 hn (HTAB.out.below hlwX.b hL) (by omega) f0 f1 f2 ((hu.below (show Below w.heap.size w wr by rw [hS]; exact hlw.b)).below hbo) hlen
                      have HEV : Hid (∀ k, (Value.slice ea j ec).ownBlock = some k → k < (wr.alloc (Obj.cells #[.int .u8 fl[j].1, .slice va fl[j].2.length vc] 27)).heap.size) := fun k hk => Nat.lt_of_lt_of_le (hevl k hk) hbz
                      have HSN : Hid (((fl.map fun q => drawn t0 t1 t2 q.1 np q.2).take (j + 1)).map Value.string = ((fl.map fun q => drawn t0 t1 t2 q.1 np q.2).take j).map Value.string ++ [.string (drawn t0 t1 t2 fl[j].1 np fl[j].2)]) := by
                        show _ = _
                        rw [List.take_succ_eq_append_getElem (by simpa using hlt)]
                        simp
                      have HFL : Hid ((fsOf np fl).take (j + 1) = (fsOf np fl).take j ++ [(tyName fl[j].1 np, tyArgs fl[j].1 np fl[j].2)]) := by
                        show _ = _
                        rw [List.take_succ_eq_append_getElem (by rw [HFSL.out]; exact hlt)]
                        simp [fsOf]
                      have HST : Hid (World.ownsRow _ T2 9 1 u43 j (((fl.map fun q => drawn t0 t1 t2 q.1 np q.2).take j).map Value.string) ∧ ((wr.alloc (Obj.cells #[.int .u8 fl[j].1, .slice va fl[j].2.length vc] 27)).ownsRow (TN + 1 + 1 + 1) 83 9 (.slice m2a ml.length m2c) ml.length (l.flatMap spCells) ∧ MatchS (wr.alloc (Obj.cells #[.int .u8 fl[j].1, .slice va fl[j].2.length vc] 27)) l (ml.map fun m => mdOf np m) ∧ ParRow (wr.alloc (Obj.cells #[.int .u8 fl[j].1, .slice va fl[j].2.length vc] 27)) (.slice pa np pc) (psOf np b0 b1) ∧ (wr.alloc (Obj.cells #[.int .u8 fl[j].1, .slice va fl[j].2.length vc] 27)).ownsRow (TN + 1 + 1 + 1) 9 1 (.slice sa ml.length sc) ml.length ((ml.map fun m => (mdOf np m).spec t0 t1 t2 n0 n1 n2 (scopeOf np)).map Value.string)) ∧ T2 ≤ (wr.alloc (Obj.cells #[.int .u8 fl[j].1, .slice va fl[j].2.length vc] 27)).heap.size ∧ World.ownsRow _ (TN + 1 + 1 + 1) 43 4 (.slice ea j ec) j (le.flatMap embCells) ∧ MatchE _ (Value.slice ea j ec).ownBlock le ((fsOf np fl).take j) ∧ LiSt S TN w _ b0 b1 t0 t1 t2 n0 n1 n2 (nameOf i) (.slice pa np pc) (.slice m2a ml.length m2c) (.slice ea j ec)) :=
                        ⟨owns_below htx hbo, ⟨owns_below hspx.1 hbo, hspx.2.1.keeps (Keeps.below hbo), hspx.2.2.1.below hbo, owns_below hspx.2.2.2 hbo⟩, Nat.le_trans hT2s hbz, owns_below hown hbo, hm.map (fun _ _ h => h.below hbo), hlwX⟩
                      clear hlwX hlw hown hm htx hspx hT2s hu hcell c0 c1 hbo hbz hevl
                      generalize (fsOf np fl).take j = fsj at *
                      generalize ((fl.map fun q => drawn t0 t1 t2 q.1 np q.2).take j).map Value.string = xj at *
                      generalize drawn t0 t1 t2 fl[j].1 np fl[j].2 = dj at *
                      generalize tyName fl[j].1 np = tx at *
                      generalize tyArgs fl[j].1 np fl[j].2 = ta at *
                      generalize fl[j].2.length = len at *
                      generalize fl[j].1 = sel at *
                      go_wp2_with fail
                      refine HCL.out.mono ?_
                      rintro e w4 ⟨av, rfl, hta, hfr4, hb4⟩
                      have HFR : Hid (∀ k, av.ownBlock = some k → (Value.slice ea j ec).ownBlock ≠ some k) := fun k hk he => by
                        have h1 := hfr4 k hk
                        have h2 := HEV.out k he
                        omega
                      clear HCL hfr4 HEV
                      obtain ⟨xa, xc, rfl, hjk⟩ := id hta
                      clear hjk
                      unfold tyV
                      have hB5 := hb4.alloc hb4.size (Obj.cells #[.int .i64 0, .int .i64 0, .string tx, .slice xa ta.length xc] 43)
                      have hta5 := hta.keeps (Keeps.alloc 43 w4 (Obj.cells #[.int .i64 0, .int .i64 0, .string tx, .slice xa ta.length xc] 43))
                      have HS5 : Hid (World.ownsRow _ T2 9 1 u43 j xj ∧ ((w4.alloc (Obj.cells #[.int .i64 0, .int .i64 0, .string tx, .slice xa ta.length xc] 43)).ownsRow (TN + 1 + 1 + 1) 83 9 (.slice m2a ml.length m2c) ml.length (l.flatMap spCells) ∧ MatchS (w4.alloc (Obj.cells #[.int .i64 0, .int .i64 0, .string tx, .slice xa ta.length xc] 43)) l (ml.map fun m => mdOf np m) ∧ ParRow (w4.alloc (Obj.cells #[.int .i64 0, .int .i64 0, .string tx, .slice xa ta.length xc] 43)) (.slice pa np pc) (psOf np b0 b1) ∧ (w4.alloc (Obj.cells #[.int .i64 0, .int .i64 0, .string tx, .slice xa ta.length xc] 43)).ownsRow (TN + 1 + 1 + 1) 9 1 (.slice sa ml.length sc) ml.length ((ml.map fun m => (mdOf np m).spec t0 t1 t2 n0 n1 n2 (scopeOf np)).map Value.string)) ∧ T2 ≤ (w4.alloc (Obj.cells #[.int .i64 0, .int .i64 0, .string tx, .slice xa ta.length xc] 43)).heap.size ∧ World.ownsRow _ (TN + 1 + 1 + 1) 43 4 (.slice ea j ec) j (le.flatMap embCells) ∧ MatchE _ (Value.slice ea j ec).ownBlock le fsj ∧ LiSt S TN w _ b0 b1 t0 t1 t2 n0 n1 n2 (nameOf i) (.slice pa np pc) (.slice m2a ml.length m2c) (.slice ea j ec) ∧ TyArgsX _ (Value.slice ea j ec).ownBlock (.slice xa ta.length xc) ta ∧ _ = some (Obj.cells #[.int .i64 0, .int .i64 0, .string tx, .slice xa ta.length xc] 43)) :=
                        ⟨owns_below HST.out.1 hB5, ⟨owns_below HST.out.2.1.1 hB5, HST.out.2.1.2.1.keeps (Keeps.below hB5), HST.out.2.1.2.2.1.below hB5, owns_below HST.out.2.1.2.2.2 hB5⟩, Nat.le_trans HST.out.2.2.1 hB5.size, owns_below HST.out.2.2.2.1 hB5, HST.out.2.2.2.2.1.map (fun _ _ h => h.below hB5), HST.out.2.2.2.2.2.below hB5, ⟨hta5, fun hp he => by
                          obtain ⟨k, c, hk, _⟩ := hta5.blk hp
                          exact HFR.out k hk (by rw [← he, hk])⟩, heap_alloc_newD w4 _⟩
                      clear hta hta5 hb4 hB5 HST HFR c0' c1' a0 a1 a2 hSl hTl
                      go_wp2_with fail
                      generalize w4.alloc (Obj.cells #[.int .i64 0, .int .i64 0, .string tx, .slice xa ta.length xc] 43) = W5 at *
                      generalize w4.heap.size = K at *
                      obtain ⟨htx, hspx, hT2s, hown, hm, hlw, hax, hK⟩ := HS5.out
                      clear HS5
                      have u0 := cell_row (j := 0) hK rfl
                      have u1 := cell_row (j := 1) hK rfl
                      have u2 := cell_row (j := 2) hK rfl
                      have u3 := cell_row (j := 3) hK rfl
                      have d5 := cell_row (j := 5) hlw.d rfl
                      have df : ∀ j, W5.frozen? ⟨TN + 1 + 1, j, none⟩ = false := fun j => by simp [World.frozen?, hlw.d]
                      have hKl : K < W5.heap.size := (Array.getElem?_eq_some_iff.1 hK).1
                      have o3 := hlw.o3
                      have hDl : TN + 1 + 1 < W5.heap.size := by omega
                      have j0 : (0 : Int) ≤ (j : Int) := by omega
                      have j1 : (j : Int) < (j : Int) + 1 := by omega
                      have hxl : (le.flatMap embCells).length = j * 4 := hown.1
                      have HOW : Hid (W5.ownsRow (TN + 1 + 1 + 1) 43 4 (.slice ea j ec) j (le.flatMap embCells)) := hown
                      have HLW : Hid (LiSt S TN w W5 b0 b1 t0 t1 t2 n0 n1 n2 (nameOf i) (.slice pa np pc) (.slice m2a ml.length m2c) (.slice ea j ec)) := hlw
                      have HR5 : Hid (W5.ownsRow T2 9 1 u43 j xj ∧ (W5.ownsRow (TN + 1 + 1 + 1) 83 9 (.slice m2a ml.length m2c) ml.length (l.flatMap spCells) ∧ MatchS W5 l (ml.map fun m => mdOf np m) ∧ ParRow W5 (.slice pa np pc) (psOf np b0 b1) ∧ W5.ownsRow (TN + 1 + 1 + 1) 9 1 (.slice sa ml.length sc) ml.length ((ml.map fun m => (mdOf np m).spec t0 t1 t2 n0 n1 n2 (scopeOf np)).map Value.string)) ∧ T2 ≤ W5.heap.size ∧ MatchE W5 (Value.slice ea j ec).ownBlock le fsj ∧ TyArgsX W5 (Value.slice ea j ec).ownBlock (.slice xa ta.length xc) ta) := ⟨htx, hspx, hT2s, hm, hax⟩
                      clear hown hlw hK htx hspx hm hax
                      obtain ⟨J, hJ⟩ : ∃ J, j * 4 = J := ⟨_, rfl⟩
                      go_cut [] (fun wd => ∃ ev' ea' ec', ev' = .slice ea' (j + 1) ec' ∧ wd.ownsRow (TN + 1 + 1 + 1) 43 4 ev' (j + 1) (le.flatMap embCells ++ embCells (tx, .slice xa ta.length xc)) ∧ MatchE wd ev'.ownBlock (le ++ [(tx, .slice xa ta.length xc)]) (fsj ++ [(tx, ta)]) ∧ wd.ownsRow T2 9 1 u43 j xj ∧ (wd.ownsRow (TN + 1 + 1 + 1) 83 9 (.slice m2a ml.length m2c) ml.length (l.flatMap spCells) ∧ MatchS wd l (ml.map fun m => mdOf np m) ∧ ParRow wd (.slice pa np pc) (psOf np b0 b1) ∧ wd.ownsRow (TN + 1 + 1 + 1) 9 1 (.slice sa ml.length sc) ml.length ((ml.map fun m => (mdOf np m).spec t0 t1 t2 n0 n1 n2 (scopeOf np)).map Value.string)) ∧ T2 ≤ wd.heap.size ∧ LiSt S TN w wd b0 b1 t0 t1 t2 n0 n1 n2 (nameOf i) (.slice pa np pc) (.slice m2a ml.length m2c) (ev'))
                      case first =>
                        go_region_law ((refine step_append_lies _ (by rfl) (.tmp 189) (.tmp 192) 41 (by rfl) (TN + 1 + 1 + 1) 43 i43 _ 4 56 Ybad.underlying41 hi43 hz43 hs43 hb43 (by rfl) (by decide) (.slice ea j ec) j (le.flatMap embCells) (by rfl) (by exact HOW.out.alloc _) _ 1 1 [.int .i64 0, .int .i64 0, .string ⟨#[]⟩, .slice none 0 0] (by rfl) (by rfl) (by exact World.news_of_block (cs := #[.int .i64 0, .int .i64 0, .string ⟨#[]⟩, .slice none 0 0]) (heap_alloc_newD W5 _)) (by intro u hu; simp at hu; rcases hu with rfl | rfl | rfl <;> rfl) (by decide) (by unfold maxLen; omega) (by omega) (by simp; omega) (W5.heap.size + 1) (by simp) ?_; intro g5 cap5 w2 hown5 hgrow5 hat5 hlt5; have hgr : (W5.alloc (.cells #[.int .i64 0, .int .i64 0, .string ⟨#[]⟩, .slice none 0 0] 43)).grownBy w2 (Value.slice ea j ec).ownBlock := ⟨hgrow5.os, hgrow5.tape, hgrow5.output, hgrow5.size, hgrow5.block⟩; have hE := emb_done tx (.slice xa ta.length xc) HOW.out HLW.out.d (Nat.lt_succ_self _) o3 hgr hown5 hat5; have hd5 := far_row HOW.out HLW.out.d (Nat.lt_succ_self _) o3 hgr; have d55 := cell_row (j := 5) hd5 rfl; have df5 : ∀ j, w2.frozen? ⟨TN + 1 + 1, j, none⟩ = false := fun j => (by simp [World.frozen?, hd5]); have gT : TN + 1 + 1 + 1 ≤ g5 := (hown5.lt g5 rfl).1; have gD : TN + 1 + 1 ≠ g5 := (by omega); have gD' := gD.symm; have gf : ∀ q, w2.frozen? ⟨g5, q, none⟩ = false := fun q => hown5.frozenAt q; have x0 : w2.cell? ⟨g5, J, none⟩ = some (.int .i64 0) := (by rw [← hJ]; exact (there4 hxl hown5).1); have x1 : w2.cell? ⟨g5, J + 1, none⟩ = some (.int .i64 0) := (by rw [← hJ]; exact (there4 hxl hown5).2.1); have x2 : w2.cell? ⟨g5, J + 2, none⟩ = some (.string ⟨#[]⟩) := (by rw [← hJ]; exact (there4 hxl hown5).2.2.1); have x3 : w2.cell? ⟨g5, J + 3, none⟩ = some (.slice none 0 0) := (by rw [← hJ]; exact (there4 hxl hown5).2.2.2); rw [hJ] at hE))
                        all_goals go_wp2_with fail
                        all_goals go_meet
                        all_goals (case rel => (first | rw [set_comm4 _ _ _ _ _ _ _ _ _ _ gD] | skip); exact ⟨_, _, _, rfl, hE.own, (HR5.out.2.2.2.1.map hE.x).snoc _ _ _ (hE.x _ _ HR5.out.2.2.2.2), owns_keeps HR5.out.1 (hE.keeps 9 (by decide) (by decide)), ⟨owns_keeps HR5.out.2.1.1 (hE.keeps 83 (by decide) (by decide)), HR5.out.2.1.2.1.keeps (hE.keeps 49 (by decide) (by decide)), HR5.out.2.1.2.2.1.keeps (hE.keeps 47 (by decide) (by decide)), owns_keeps HR5.out.2.1.2.2.2 (hE.keeps 9 (by decide) (by decide))⟩, Nat.le_trans HR5.out.2.2.1 hE.size, HLW.out.grewE hE⟩)
                      case rest =>
                        obtain ⟨ev', ea', ec', rfl, hown', hm', htx', hspx', hT2', hlw'⟩ := hcut
                        clear HOW HLW HR5 u0 u1 u2 u3 d5 df hKl hDl o3 hxl hJ
                        have HN : Hid (wc.ownsRow (TN + 1 + 1 + 1) 43 4 (.slice ea' (j + 1) ec') (j + 1) (le.flatMap embCells ++ embCells (tx, .slice xa ta.length xc)) ∧ MatchE wc (Value.slice ea' (j + 1) ec').ownBlock (le ++ [(tx, .slice xa ta.length xc)]) (fsj ++ [(tx, ta)]) ∧ (wc.ownsRow (TN + 1 + 1 + 1) 83 9 (.slice m2a ml.length m2c) ml.length (l.flatMap spCells) ∧ MatchS wc l (ml.map fun m => mdOf np m) ∧ ParRow wc (.slice pa np pc) (psOf np b0 b1) ∧ wc.ownsRow (TN + 1 + 1 + 1) 9 1 (.slice sa ml.length sc) ml.length ((ml.map fun m => (mdOf np m).spec t0 t1 t2 n0 n1 n2 (scopeOf np)).map Value.string)) ∧ LiSt S TN w wc b0 b1 t0 t1 t2 n0 n1 n2 (nameOf i) (.slice pa np pc) (.slice m2a ml.length m2c) ((.slice ea' (j + 1) ec'))) := ⟨hown', hm', hspx', hlw'⟩
                        have HX5 : Hid (wc.ownsRow T2 9 1 u43 j xj) := htx'
                        have q5 : j + 1 ≤ maxLen := by unfold maxLen; omega
                        have q6 : (j + 1) * 16 ≤ 140737488355328 := by omega
                        clear hown' hm' hspx' htx' hlw'
                        go_wp2_with (at_builtin; refine wpList_append_lies _ rfl (.tmp 197) (.tmp 199) 51 rfl T2 9 i9 _ 1 16 Ybad.underlying51 hi9 hz9 hs9 hb9 rfl (by decide) _ j _ rfl (HX5.out.alloc _) _ 1 1 [.string dj] rfl rfl (World.news_of_block (cs := #[.string dj]) (heap_alloc_newD _ _)) (by intro u hu; simp at hu; subst hu; rfl) (by decide) q5 q6 (by simp; omega) _ rfl ?_)
                        intro g6 cap6 w6 hown6 hgrow6 hat6 hlt6
                        have hG6 := grewA HX5.out hgrow6
                        have hG7 : Grown (TN + 1 + 1 + 1) 9 wc w6 := ⟨hG6.keeps, hG6.size, fun B w0 hB _ hb => hG6.bel B w0 (by omega) hT2' hb⟩
                        have hst : w6.ownsRow (TN + 1 + 1 + 1) 9 1 (.slice sa ml.length sc) ml.length ((ml.map fun m => (mdOf np m).spec t0 t1 t2 n0 n1 n2 (scopeOf np)).map Value.string) := (HN.out.2.2.1.2.2.2.alloc _).kept hgrow6 (by
                          cases hq : (Value.slice sa ml.length sc).ownBlock with
                          | none => exact .inl rfl
                          | some k => exact .inr (fun he => by have h1 := HSB2.out k hq; have h2 := (HX5.out.lt k he.symm).1; omega))
                        have HN6 : Hid (w6.ownsRow T2 9 1 (.slice (some ⟨g6, 0, none⟩) (j + 1) cap6) (j + 1) (xj ++ [.string dj]) ∧ (w6.ownsRow (TN + 1 + 1 + 1) 83 9 (.slice m2a ml.length m2c) ml.length (l.flatMap spCells) ∧ MatchS w6 l (ml.map fun m => mdOf np m) ∧ ParRow w6 (.slice pa np pc) (psOf np b0 b1) ∧ w6.ownsRow (TN + 1 + 1 + 1) 9 1 (.slice sa ml.length sc) ml.length ((ml.map fun m => (mdOf np m).spec t0 t1 t2 n0 n1 n2 (scopeOf np)).map Value.string)) ∧ T2 ≤ w6.heap.size ∧ w6.ownsRow (TN + 1 + 1 + 1) 43 4 (.slice ea' (j + 1) ec') (j + 1) (le.flatMap embCells ++ embCells (tx, .slice xa ta.length xc)) ∧ MatchE w6 (Value.slice ea' (j + 1) ec').ownBlock (le ++ [(tx, .slice xa ta.length xc)]) (fsj ++ [(tx, ta)]) ∧ LiSt S TN w w6 b0 b1 t0 t1 t2 n0 n1 n2 (nameOf i) (.slice pa np pc) (.slice m2a ml.length m2c) ((.slice ea' (j + 1) ec'))) :=
                          ⟨hown6, ⟨owns_keeps HN.out.2.2.1.1 (hG6.keeps 83 (by decide)), HN.out.2.2.1.2.1.keeps (hG6.keeps 49 (by decide)), HN.out.2.2.1.2.2.1.keeps (hG6.keeps 47 (by decide)), hst⟩, Nat.le_trans hT2' hG6.size, owns_keeps HN.out.1 (hG6.keeps 43 (by decide)), HN.out.2.1.map (fun _ _ h => ⟨h.1.keeps (hG6.keeps 43 (by decide)), h.2⟩), HN.out.2.2.2.grown hG7 (by decide) (by decide) (by decide)⟩
                        clear HN HX5 hown6 hgrow6 hat6 hG6 hG7 hst
                        go_wp2_with fail
                        go_roundw
                        case rel => exact ⟨j + 1, by omega, by go_num, by rw [HSN.out]; exact HN6.out.1, HN6.out.2.1, HN6.out.2.2.1, .slice ea' (j + 1) ec', (le ++ [(tx, .slice xa ta.length xc)]), by simp [hlj2], by rw [List.flatMap_append]; simpa using HN6.out.2.2.2.1, by rw [HFL.out]; exact HN6.out.2.2.2.2.1, HN6.out.2.2.2.2.2⟩
                        case measure => simp [intOf]; omega
                    · obtain rfl : j = fl.length := by omega
                      have e1 : (fsOf np fl).take fl.length = (fsOf np fl) := List.take_of_length_le (by rw [HFSL.out]; exact Nat.le_refl _)
                      have e2 : (fl.map fun q => drawn t0 t1 t2 q.1 np q.2).take fl.length = (fl.map fun q => drawn t0 t1 t2 q.1 np q.2) := List.take_of_length_le (by simp)
                      have hlE : (fl.map fun q => drawn t0 t1 t2 q.1 np q.2).length = fl.length := by simp
                      have hlT : (ml.map fun m => (mdOf np m).spec t0 t1 t2 n0 n1 n2 (scopeOf np)).length = ml.length := by simp
                      rw [e1] at hm
                      rw [e2] at htx
                      have hem := embRow_own (by rw [hlj2]; exact hown) hm
                      obtain ⟨ea, ec, hev, hjk⟩ := id hem
                      clear hjk
                      rw [HFSL.out] at hev
                      subst hev
                      have hsp := specRow_own (by rw [hlj]; exact hspx.1) hspx.2.1
                      have hscE : Scope wr u43 (fl.map fun q => drawn t0 t1 t2 q.1 np q.2) := strs_row (T := T2) (by rw [hlE]; exact htx)
                      have hscS : Scope wr (.slice sa ml.length sc) (ml.map fun m => (mdOf np m).spec t0 t1 t2 n0 n1 n2 (scopeOf np)) := strs_row (T := (TN + 1 + 1 + 1)) (by rw [hlT]; exact hspx.2.2.2)
                      obtain ⟨ta, tc, htv, hjk⟩ := id hscE
                      clear hjk
                      rw [hlE] at htv
                      subst htv
                      have HMI : Hid (IMid S TN w wr b0 b1 t0 t1 t2 n0 n1 n2 (nameOf i) (.slice pa np pc) (.slice m2a ml.length m2c) (.slice ea fl.length ec) (psOf np b0 b1) (ml.map fun m => mdOf np m) (fsOf np fl)) := ⟨hlw, hspx.2.2.1, hsp, hem⟩
                      have HXE : Hid (wr.ownsRow T2 9 1 (.slice ta fl.length tc) fl.length ((fl.map fun q => drawn t0 t1 t2 q.1 np q.2).map Value.string)) := htx
                      have HXS : Hid (wr.ownsRow (TN + 1 + 1 + 1) 9 1 (.slice sa ml.length sc) ml.length ((ml.map fun m => (mdOf np m).spec t0 t1 t2 n0 n1 n2 (scopeOf np)).map Value.string)) := hspx.2.2.2
                      have HS1 : Hid (Calls Ybad.prog 9 _ wr _) := sort_any wr _ (ml.map fun m => (mdOf np m).spec t0 t1 t2 n0 n1 n2 (scopeOf np)) hscS (by rw [hlT]; omega)
                      have hT2w : T2 ≤ wr.heap.size := hT2s
                      clear hown hm htx hspx hlw hem hsp hscE hscS e1 e2 hT2s
                      go_wp2_with fail
                      refine HS1.out.mono ?_
                      rintro e w6 ⟨rfl, hsc6, row, hrow, hrl, hg6⟩
                      have hrb : ∀ k, row = some k → (Value.slice sa ml.length sc).ownBlock = some k := fun k hk => by
                        obtain ⟨n', c', he⟩ := hrl k hk
                        rw [he]; rfl
                      have hb6 : Below S w w6 := HMI.out.lw.b.grown hg6 (by have := HMI.out.lw.o3; have := HMI.out.lw.o1; omega) (fun k hk => by have h1 := (HXS.out.lt k (hrb k hk)).1; have := HMI.out.lw.o1; omega)
                      have HM6 : Hid (IMid S TN w w6 b0 b1 t0 t1 t2 n0 n1 n2 (nameOf i) (.slice pa np pc) (.slice m2a ml.length m2c) (.slice ea fl.length ec) (psOf np b0 b1) (ml.map fun m => mdOf np m) (fsOf np fl)) := HMI.out.keeps (fun t ht => hrow.keeps hg6 t (fun e => by subst e; simp at ht)) hb6 hg6.size
                      have hE6 : w6.ownsRow T2 9 1 (.slice ta fl.length tc) fl.length ((fl.map fun q => drawn t0 t1 t2 q.1 np q.2).map Value.string) := HXE.out.kept hg6 (by
                        cases hq : (Value.slice ta fl.length tc).ownBlock with
                        | none => exact .inl rfl
                        | some k => exact .inr (fun he => by have h1 := (HXE.out.lt k hq).1; have h2 := HSB2.out k (hrb k he.symm); omega))
                      have HXE6 : Hid (w6.ownsRow T2 9 1 (.slice ta fl.length tc) fl.length ((fl.map fun q => drawn t0 t1 t2 q.1 np q.2).map Value.string)) := hE6
                      have HS2 : Hid (Calls Ybad.prog 9 _ w6 _) := sort_any w6 _ (fl.map fun q => drawn t0 t1 t2 q.1 np q.2) (strs_row (T := T2) (by rw [hlE]; exact hE6)) (by rw [hlE]; omega)
                      have HSC6 : Hid (Scope w6 (.slice sa ml.length sc) (sortB (ml.map fun m => (mdOf np m).spec t0 t1 t2 n0 n1 n2 (scopeOf np)))) := hsc6
                      have hT26 : T2 ≤ w6.heap.size := Nat.le_trans hT2w hg6.size
                      clear HS1 HMI HXE hsc6 hrow hrl hg6 hrb hb6 hE6
                      go_wp2_with fail
                      refine HS2.out.mono ?_
                      rintro e w7 ⟨rfl, hsc7, row2, hrow2, hrl2, hg7⟩
                      have hrb2 : ∀ k, row2 = some k → (Value.slice ta fl.length tc).ownBlock = some k := fun k hk => by
                        obtain ⟨n', c', he⟩ := hrl2 k hk
                        rw [he]; rfl
                      have hb7 : Below S w w7 := HM6.out.lw.b.grown hg7 (by have := HM6.out.lw.o3; have := HM6.out.lw.o1; omega) (fun k hk => by have h1 := (HXE6.out.lt k (hrb2 k hk)).1; have := HM6.out.lw.o1; omega)
                      have HM7 : Hid (IMid S TN w w7 b0 b1 t0 t1 t2 n0 n1 n2 (nameOf i) (.slice pa np pc) (.slice m2a ml.length m2c) (.slice ea fl.length ec) (psOf np b0 b1) (ml.map fun m => mdOf np m) (fsOf np fl)) := HM6.out.keeps (fun t ht => hrow2.keeps hg7 t (fun e => by subst e; simp at ht)) hb7 hg7.size
                      have hscS7 : Scope w7 (.slice sa ml.length sc) (sortB (ml.map fun m => (mdOf np m).spec t0 t1 t2 n0 n1 n2 (scopeOf np))) := HSC6.out.other hg7 (fun k hk he => by have h1 := HSB2.out k hk; have h2 := (HXE6.out.lt k (hrb2 k he.symm)).1; omega)
                      have hzS : ∀ a ∈ sortB (ml.map fun m => (mdOf np m).spec t0 t1 t2 n0 n1 n2 (scopeOf np)), a.size ≤ 4000000 := fun a ha => by
                        have h := sortB_mem ha
                        rw [List.mem_map] at h
                        obtain ⟨m, hm, rfl⟩ := h
                        obtain ⟨z, hz, rfl⟩ := List.getElem_of_mem hm
                        have := MD.spec_size f0 f1 f2 g0 g1 g2 (scopeOf np) hscl _ (mdOf_goodIn np hn _ (HMA.out z hz))
                        omega
                      have hzE : ∀ a ∈ sortB (fl.map fun q => drawn t0 t1 t2 q.1 np q.2), a.size ≤ 4000000 := fun a ha => by
                        have h := sortB_mem ha
                        rw [List.mem_map] at h
                        obtain ⟨q, hq, rfl⟩ := h
                        obtain ⟨z, hz, rfl⟩ := List.getElem_of_mem hq
                        have : (drawn t0 t1 t2 fl[z].1 np fl[z].2).size ≤ 7000 := tyText_size f0 f1 f2 (scopeOf np) hscl _ _ (drawn_good _ np _ hn (HFA.out z hz)).2.2.2
                        omega
                      have HJ1 : Hid (Calls Ybad.prog 12 _ w7 _) := zzjoin_any _ _ w7 hscS7 (by rw [sortB_length, hlT]; omega) hzS
                      have HJ2 : Hid (Calls Ybad.prog 12 _ w7 _) := zzjoin_any _ _ w7 hsc7 (by rw [sortB_length, hlE]; omega) hzE
                      have hjS := joinB_size_all _ 4000000 hzS
                      have hjE := joinB_size_all _ 4000000 hzE
                      rw [sortB_length, hlT] at hjS
                      rw [sortB_length, hlE] at hjE
                      have hjS2 : (joinB (sortB (ml.map fun m => (mdOf np m).spec t0 t1 t2 n0 n1 n2 (scopeOf np)))).size ≤ 2000000000 := by omega
                      have hjE2 : (joinB (sortB (fl.map fun q => drawn t0 t1 t2 q.1 np q.2))).size ≤ 2000000000 := by omega
                      have HWT : Hid (ifaceText t0 t1 t2 n0 n1 n2 (psOf np b0 b1) (ml.map fun m => mdOf np m) (fsOf np fl) = acc1 ++ (⟨#[123]⟩ ++ joinB (sortB (ml.map fun m => (mdOf np m).spec t0 t1 t2 n0 n1 n2 (scopeOf np))) ++ ⟨#[47]⟩ ++ joinB (sortB (fl.map fun q => drawn t0 t1 t2 q.1 np q.2)) ++ ⟨#[125]⟩)) := by
                        show _ = _
                        rw [← HAC1.out, ← HSB.out]
                        unfold ifaceText
                        rw [ps_names]
                        have x1 : (⟨#[73, 60]⟩ : ByteArray) = ⟨#[73]⟩ ++ ⟨#[60]⟩ := rfl
                        rw [x1]
                        have y1 : (psOf np b0 b1).map (fun q => leaf t0 t1 t2 (scopeOf np) q.2) = ((List.range np).map fun j => leaf t0 t1 t2 (scopeOf np) (tyName (bnd b0 b1 j) np)) := by unfold psOf; rw [List.map_map]; rfl
                        have y2 : (fsOf np fl).map (fun q => tyText t0 t1 t2 (scopeOf np) q.1 q.2) = (fl.map fun q => drawn t0 t1 t2 q.1 np q.2) := by unfold fsOf; rw [List.map_map]; rfl
                        have y3 : (ml.map fun m => mdOf np m).map (fun m => m.spec t0 t1 t2 n0 n1 n2 (scopeOf np)) = (ml.map fun m => (mdOf np m).spec t0 t1 t2 n0 n1 n2 (scopeOf np)) := by rw [List.map_map]; rfl
                        rw [y1, y2, y3]
                      clear HS2 HM6 HXE6 HXS HSC6 hsc7 hscS7 hrow2 hrl2 hg7 hrb2 hb7 hlT hlE hzS hzE hjS hjE
                      generalize joinB (sortB (ml.map fun m => (mdOf np m).spec t0 t1 t2 n0 n1 n2 (scopeOf np))) = js at *
                      generalize joinB (sortB (fl.map fun q => drawn t0 t1 t2 q.1 np q.2)) = je at *
                      have hs123 : (⟨#[123]⟩ : ByteArray).size = 1 := rfl
                      have hs47 : (⟨#[47]⟩ : ByteArray).size = 1 := rfl
                      have hs125 : (⟨#[125]⟩ : ByteArray).size = 1 := rfl
                      have z1 : (⟨#[123]⟩ ++ js).size ≤ 2000000001 := by rw [ByteArray.size_append]; omega
                      have z2 : (⟨#[123]⟩ ++ js ++ ⟨#[47]⟩).size ≤ 2000000002 := by rw [ByteArray.size_append]; omega
                      have z3 : (⟨#[123]⟩ ++ js ++ ⟨#[47]⟩ ++ je).size ≤ 4000000002 := by rw [ByteArray.size_append]; omega
                      have z4 : (⟨#[123]⟩ ++ js ++ ⟨#[47]⟩ ++ je ++ ⟨#[125]⟩).size ≤ 4000000003 := by rw [ByteArray.size_append]; omega
                      go_wp2_with fail
                      refine HJ1.out.mono ?_
                      rintro e w7a ⟨rfl, rfl⟩
                      clear HJ1
                      go_wp2_with fail
                      refine HJ2.out.mono ?_
                      rintro e w7b ⟨rfl, rfl⟩
                      clear HJ2
                      generalize w7b = w8 at *
                      obtain ⟨i103, hi103, hz103, hs103, hb103⟩ := info_parts info103
                      obtain ⟨i50, hi50, hz50, hs50, hb50⟩ := info_parts info50
                      have hbo := (Below.refl _ w8).alloc (Nat.le_refl _) (Obj.cells #[.string ⟨#[]⟩, .int .i64 0, .int .i64 0, .slice none 0 0, .slice none 0 0, .pointer none] 70)
                      have HM8 : Hid (IMid S TN w _ b0 b1 t0 t1 t2 n0 n1 n2 (nameOf i) (.slice pa np pc) (.slice m2a ml.length m2c) (.slice ea fl.length ec) (psOf np b0 b1) (ml.map fun m => mdOf np m) (fsOf np fl)) := HM7.out.below hbo
                      have HF8 : Hid ((w8.alloc (Obj.cells #[.string ⟨#[]⟩, .int .i64 0, .int .i64 0, .slice none 0 0, .slice none 0 0, .pointer none] 70)).heap[w8.heap.size]? = some (Obj.cells #[.string ⟨#[]⟩, .int .i64 0, .int .i64 0, .slice none 0 0, .slice none 0 0, .pointer none] 70)) := heap_alloc_newD _ _
                      have hDF : TN + 1 + 1 + 1 ≤ w8.heap.size := HM7.out.lw.o3
                      clear HM7 hbo
                      go_wp2_with fail
                      generalize hac : acc1 ++ (⟨#[123]⟩ ++ js ++ ⟨#[47]⟩ ++ je ++ ⟨#[125]⟩) = acc3 at *
                      clear hac
                      generalize w8.alloc (Obj.cells #[.string ⟨#[]⟩, .int .i64 0, .int .i64 0, .slice none 0 0, .slice none 0 0, .pointer none] 70) = W8 at *
                      generalize w8.heap.size = F at *
                      go_loopw [49] (fun x wr => ∃ k : Nat, k ≤ 3 ∧ x = .int .i64 k ∧ ∃ tv xs, xs.length = k ∧ wr.ownsRow (F + 1) 103 1 tv k xs ∧ (i < k → xs[i]? = some (.iface 78 (.pointer (some ⟨TN + 1 + 1, 0, none⟩)))) ∧ wr.heap[F]? = some (.cells #[.string ⟨#[]⟩, .int .i64 0, .int .i64 0, tv, .slice none 0 0, .pointer none] 70 (0, 0)) ∧ IMid S TN w wr b0 b1 t0 t1 t2 n0 n1 n2 (nameOf i) (.slice pa np pc) (.slice m2a ml.length m2c) (.slice ea fl.length ec) (psOf np b0 b1) (ml.map fun m => mdOf np m) (fsOf np fl)) (fun x _ => 3 - (intOf x).toNat)
                      case atStart => exact ⟨0, by omega, rfl, _, [], rfl, World.ownsRow_nil _ _ _ _, fun h => absurd h (Nat.not_lt_zero _), HF8.out, HM8.out⟩
                      case round =>
                        obtain ⟨k, hk3, rfl, tv, xs, hxl, hown, hxi, hfr, hmi⟩ := hrel
                        clear HM8 HF8
                        have hFl : F < wr.heap.size := (Array.getElem?_eq_some_iff.1 hfr).1
                        have x3 := cell_row (j := 3) hfr rfl
                        have xf : ∀ j, wr.frozen? ⟨F, j, none⟩ = false := fun j => by simp [World.frozen?, hfr]
                        by_cases hlt : k < 3
                        · have HOW : Hid (wr.ownsRow (F + 1) 103 1 tv k xs) := hown
                          have HFR : Hid (wr.heap[F]? = some (.cells #[.string ⟨#[]⟩, .int .i64 0, .int .i64 0, tv, .slice none 0 0, .pointer none] 70 (0, 0))) := hfr
                          have HMI : Hid (IMid S TN w wr b0 b1 t0 t1 t2 n0 n1 n2 (nameOf i) (.slice pa np pc) (.slice m2a ml.length m2c) (.slice ea fl.length ec) (psOf np b0 b1) (ml.map fun m => mdOf np m) (fsOf np fl)) := hmi
                          have k3 : (k : Int) < 3 := by omega
                          clear hown hfr hmi
                          by_cases hki : k = i
                          · obtain rfl : i = k := hki.symm
                            have q3 : i + 1 ≤ maxLen := by unfold maxLen; omega
                            have q4 : (i + 1) * 16 ≤ 140737488355328 := by omega
                            have hxa : i < i + 1 → (xs ++ [.iface 78 (.pointer (some ⟨TN + 1 + 1, 0, none⟩))])[i]? = some (.iface 78 (.pointer (some ⟨TN + 1 + 1, 0, none⟩))) := fun _ => by
                              rw [List.getElem?_append_right (by omega), show i - xs.length = 0 by omega]
                              rfl
                            have HXA : Hid (i < i + 1 → (xs ++ [.iface 78 (.pointer (some ⟨TN + 1 + 1, 0, none⟩))])[i]? = some (.iface 78 (.pointer (some ⟨TN + 1 + 1, 0, none⟩)))) := hxa
                            clear hxa
                            go_wp2_with (at_builtin; refine wpList_append_lies _ rfl (.tmp 229) (.tmp 232) 67 rfl (F + 1) 103 i103 _ 1 16 Ybad.underlying67 hi103 hz103 hs103 hb103 rfl (by decide) _ i _ rfl (HOW.out.alloc _) _ 1 1 [.iface 78 (.pointer (some ⟨TN + 1 + 1, 0, none⟩))] rfl rfl ?c1 ?c2 (by decide) q3 q4 ?c5 _ rfl ?_)
                            case c2 => first | (intro u hu; simp at hu; subst hu; rfl) | rfl | simp [Value.oneCell']
                            case c5 => first | omega | (simp; omega)
                            intro g5 cap5 w5 hown5 hgrow5 hat5 hlt5
                            have hG := grew (i := 3) HOW.out HFR.out (Nat.lt_succ_self _) hFl hgrow5 hown5
                            have hd5 := far_row HOW.out HFR.out (Nat.lt_succ_self _) hFl hgrow5
                            have d35 := cell_row (j := 3) hd5 rfl
                            have df5 : ∀ j, w5.frozen? ⟨F, j, none⟩ = false := fun j => by simp [World.frozen?, hd5]
                            have hSF : S ≤ F := by have := HMI.out.lw.o1; omega
                            have HN : Hid (∃ tv xs, xs.length = (i + 1) ∧ (w5.setCell ⟨F, 3, none⟩ (.slice (some ⟨g5, 0, none⟩) (i + 1) cap5)).ownsRow (F + 1) 103 1 tv (i + 1) xs ∧ (i < (i + 1) → xs[i]? = some (.iface 78 (.pointer (some ⟨TN + 1 + 1, 0, none⟩)))) ∧ (w5.setCell ⟨F, 3, none⟩ (.slice (some ⟨g5, 0, none⟩) (i + 1) cap5)).heap[F]? = some (.cells #[.string ⟨#[]⟩, .int .i64 0, .int .i64 0, tv, .slice none 0 0, .pointer none] 70 (0, 0)) ∧ IMid S TN w (w5.setCell ⟨F, 3, none⟩ (.slice (some ⟨g5, 0, none⟩) (i + 1) cap5)) b0 b1 t0 t1 t2 n0 n1 n2 (nameOf i) (.slice pa np pc) (.slice m2a ml.length m2c) (.slice ea fl.length ec) (psOf np b0 b1) (ml.map fun m => mdOf np m) (fsOf np fl)) := ⟨_, _, by simp [hxl], hG.own, HXA.out, by rw [hG.d]; rfl, HMI.out.keeps (fun t ht => hG.keeps t (fun e => by subst e; simp at ht) (fun e => by subst e; simp at ht)) (hG.bel S w hSF (by omega) HMI.out.lw.b) hG.size⟩
                            clear hG hown5 hgrow5 hat5 HMI HOW HFR hd5
                            go_wp2_with fail
                            go_roundw
                            case rel => exact ⟨i + 1, by omega, by go_num, HN.out⟩
                            case measure => simp [intOf]; omega
                          · have hki' : ¬ ((k : Int) = (i : Int)) := by omega
                            have hki'' : ¬ ((i : Int) = (k : Int)) := by omega
                            have hxa : i < k + 1 → (xs ++ [.iface 31 (.pointer (some ⟨wr.heap.size, 0, none⟩))])[i]? = some (.iface 78 (.pointer (some ⟨TN + 1 + 1, 0, none⟩))) := fun h => by
                              rw [List.getElem?_append_left (by omega)]
                              exact hxi (by omega)
                            have HXA : Hid (i < k + 1 → (xs ++ [.iface 31 (.pointer (some ⟨wr.heap.size, 0, none⟩))])[i]? = some (.iface 78 (.pointer (some ⟨TN + 1 + 1, 0, none⟩)))) := hxa
                            have hSF : S ≤ F := by have := HMI.out.lw.o1; omega
                            have hbo := (Below.refl _ wr).alloc (Nat.le_refl _) (Obj.cells #[.int .i64 0, .int .i64 0, .string (nameOf k), .slice none 0 0, .slice none 0 0] 40)
                            have HO4 : Hid ((wr.alloc (Obj.cells #[.int .i64 0, .int .i64 0, .string (nameOf k), .slice none 0 0, .slice none 0 0] 40)).ownsRow (F + 1) 103 1 tv k xs) := HOW.out.alloc _
                            have HF4 : Hid ((wr.alloc (Obj.cells #[.int .i64 0, .int .i64 0, .string (nameOf k), .slice none 0 0, .slice none 0 0] 40)).heap[F]? = some (.cells #[.string ⟨#[]⟩, .int .i64 0, .int .i64 0, tv, .slice none 0 0, .pointer none] 70 (0, 0))) := Keeps.below hbo _ _ HFR.out
                            have HM4 : Hid (IMid S TN w (wr.alloc (Obj.cells #[.int .i64 0, .int .i64 0, .string (nameOf k), .slice none 0 0, .slice none 0 0] 40)) b0 b1 t0 t1 t2 n0 n1 n2 (nameOf i) (.slice pa np pc) (.slice m2a ml.length m2c) (.slice ea fl.length ec) (psOf np b0 b1) (ml.map fun m => mdOf np m) (fsOf np fl)) := HMI.out.below hbo
                            have hZ4 : (wr.alloc (Obj.cells #[.int .i64 0, .int .i64 0, .string (nameOf k), .slice none 0 0, .slice none 0 0] 40)).heap.size = wr.heap.size + 1 := by simp
                            have HZ4 : Hid ((wr.alloc (Obj.cells #[.int .i64 0, .int .i64 0, .string (nameOf k), .slice none 0 0, .slice none 0 0] 40)).heap.size = wr.heap.size + 1) := hZ4
                            clear hxa hbo hZ4 HMI HOW HFR
                            go_wp2_with fail
                            go_region_law (first | (refine step_append_lies _ (by rfl) (.tmp 240) (.tmp 247) 67 (by rfl) (F + 1) 103 i103 _ 1 16 Ybad.underlying67 hi103 hz103 hs103 hb103 (by rfl) (by decide) tv k xs (by rfl) (by exact HO4.out.alloc _) _ 1 1 [.iface 31 (.pointer (some ⟨wr.heap.size, 0, none⟩))] (by rfl) (by rfl) (by exact World.news_of_block (cs := #[.iface 31 (.pointer (some ⟨wr.heap.size, 0, none⟩))]) (two_rows wr _ _).2) (by intro u hu; simp at hu; subst hu; rfl) (by decide) (by unfold maxLen; omega) (by omega) (by simp; omega) _ rfl ?_; intro g5 cap5 w2 hown5 hgrow5 hat5 hlt5; have hgr : ((wr.alloc (Obj.cells #[.int .i64 0, .int .i64 0, .string (nameOf k), .slice none 0 0, .slice none 0 0] 40)).alloc (.cells #[.iface 31 (.pointer (some ⟨wr.heap.size, 0, none⟩))] 103)).grownBy w2 tv.ownBlock := ⟨hgrow5.os, hgrow5.tape, hgrow5.output, hgrow5.size, hgrow5.block⟩; have hG := grew (i := 3) HO4.out HF4.out (Nat.lt_succ_self _) (by rw [HZ4.out]; omega) hgr hown5; have hd5 := far_row HO4.out HF4.out (Nat.lt_succ_self _) (by rw [HZ4.out]; omega) hgr; have d35 := cell_row (j := 3) hd5 rfl; have df5 : ∀ j, w2.frozen? ⟨F, j, none⟩ = false := fun j => (by simp [World.frozen?, hd5])) | (go_simp; go_at_call 5; refine (name_any k hlt _).mono ?_; rintro e w1' ⟨rfl, rfl⟩))
                            all_goals
                              have HN : Hid (∃ tv xs, xs.length = (k + 1) ∧ (w2.setCell ⟨F, 3, none⟩ (.slice (some ⟨g5, 0, none⟩) (k + 1) cap5)).ownsRow (F + 1) 103 1 tv (k + 1) xs ∧ (i < (k + 1) → xs[i]? = some (.iface 78 (.pointer (some ⟨TN + 1 + 1, 0, none⟩)))) ∧ (w2.setCell ⟨F, 3, none⟩ (.slice (some ⟨g5, 0, none⟩) (k + 1) cap5)).heap[F]? = some (.cells #[.string ⟨#[]⟩, .int .i64 0, .int .i64 0, tv, .slice none 0 0, .pointer none] 70 (0, 0)) ∧ IMid S TN w (w2.setCell ⟨F, 3, none⟩ (.slice (some ⟨g5, 0, none⟩) (k + 1) cap5)) b0 b1 t0 t1 t2 n0 n1 n2 (nameOf i) (.slice pa np pc) (.slice m2a ml.length m2c) (.slice ea fl.length ec) (psOf np b0 b1) (ml.map fun m => mdOf np m) (fsOf np fl)) := ⟨_, _, by simp [hxl], hG.own, HXA.out, by rw [hG.d]; rfl, HM4.out.keeps (fun t ht => hG.keeps t (fun e => by subst e; simp at ht) (fun e => by subst e; simp at ht)) (hG.bel S w hSF (by omega) HM4.out.lw.b) hG.size⟩
                              clear hG hown5 hgrow5 hat5 hgr hd5 HO4 HF4 HM4
                              go_wp2_with fail
                              go_roundw
                              case rel => exact ⟨k + 1, by omega, by go_num, HN.out⟩
                              case measure => simp [intOf]; omega
                        · obtain rfl : k = 3 := by omega
                          obtain ⟨TR, tc3, htvv, _, hTRl⟩ := hown.form (by omega)
                          subst htvv
                          have hxi3 := hxi hi
                          obtain ⟨_, ⟨hno, _⟩ | ⟨g', cap', cur, hv', _, hgr, _, _, _, htk⟩⟩ := hown
                          · simp at hno
                          simp only [Value.slice.injEq, Option.some.injEq, Addr.mk.injEq, and_true, true_and] at hv'
                          obtain ⟨rfl, rfl⟩ := hv'
                          have hcur := take_cell htk hxi3
                          have hmk := fun w => run_make (P := Ybad.prog) w 71 50 i50 _ Ybad.underlying71 hi50 hz50 .i64 .i64 3 3 (by omega) (by omega) (by rw [hb50]; omega) (by omega)
                          rw [hs50] at hmk
                          generalize madeCells (Value.slice none 0 0).cells ((3 : Int).toNat * 1) = Z at hmk
                          have HRT : Hid (wr.heap[TR]? = some (.cells cur 103 (0, 0))) := hgr
                          have HFR : Hid (wr.heap[F]? = some (.cells #[.string ⟨#[]⟩, .int .i64 0, .int .i64 0, (.slice (some ⟨TR, 0, none⟩) 3 tc3), .slice none 0 0, .pointer none] 70 (0, 0))) := hfr
                          have HMI : Hid (IMid S TN w wr b0 b1 t0 t1 t2 n0 n1 n2 (nameOf i) (.slice pa np pc) (.slice m2a ml.length m2c) (.slice ea fl.length ec) (psOf np b0 b1) (ml.map fun m => mdOf np m) (fsOf np fl)) := hmi
                          clear hgr hfr hmi hxi hxi3 htk x3 xf
                          go_wp2_with fail
                          have hbo := (Below.refl _ wr).alloc (Nat.le_refl _) (Obj.cells Z 50)
                          refine (num_any t0 t1 t2 n0 n1 n2 F (some ⟨wr.heap.size, 0, none⟩) 3 3 _).mono ?_
                          rintro e w8 ⟨rfl, hN8, hb8⟩
                          have hpF : (numBlk (wr.alloc (Obj.cells Z 50)).heap.size F).F = F := rfl
                          generalize numBlk (wr.alloc (Obj.cells Z 50)).heap.size F = p at *
                          have hb8' : Below wr.heap.size wr w8 := hbo.trans (hb8.mono hbo.size)
                          have hbp := (Below.refl _ w8).alloc (Nat.le_refl _) (Obj.cells #[.pointer (some ⟨p.sh, 0, none⟩), .slice (some ⟨p.tb, 0, none⟩) 3 3, .slice (some ⟨p.nb, 0, none⟩) 3 3] 75)
                          have hb9 := hb8'.trans (hbp.mono hb8'.size)
                          have hmi9 := HMI.out.below hb9
                          have hN9 := hN8.below hbp
                          have hd9 : IDecl (w8.alloc (Obj.cells #[.pointer (some ⟨p.sh, 0, none⟩), .slice (some ⟨p.tb, 0, none⟩) 3 3, .slice (some ⟨p.nb, 0, none⟩) 3 3] 75)) p.F TR (TN + 1 + 1) i tc3 (nameOf i) (.slice pa np pc) (.slice m2a ml.length m2c) (.slice ea fl.length ec) (psOf np b0 b1) (ml.map fun m => mdOf np m) (fsOf np fl) :=
                            ⟨by rw [hpF]; exact Keeps.below hb9 _ _ HFR.out, ⟨cur, Keeps.below hb9 _ _ HRT.out, hcur⟩, hmi9.lw.d, hmi9.pr, hmi9.sp, hmi9.em⟩
                          have hS9 : S ≤ (w8.alloc (Obj.cells #[.pointer (some ⟨p.sh, 0, none⟩), .slice (some ⟨p.tb, 0, none⟩) 3 3, .slice (some ⟨p.nb, 0, none⟩) 3 3] 75)).heap.size := by have := hmi9.lw.b.size; omega
                          have htd := td_iface L (w8.alloc (Obj.cells #[.pointer (some ⟨p.sh, 0, none⟩), .slice (some ⟨p.tb, 0, none⟩) 3 3, .slice (some ⟨p.nb, 0, none⟩) 3 3] 75)) p t0 t1 t2 n0 n1 n2 TR (TN + 1 + 1) i tc3 (nameOf i) _ _ _ _ (psOf np b0 b1) (ml.map fun m => mdOf np m) (fsOf np fl) hi hN9 (HTAB.out.below hmi9.lw.b hL) (by omega) f0 f1 f2 g0 g1 g2 hd9 (by rw [HPL.out]; omega) (fun q hq => by
                            rw [ps_names]
                            unfold psOf at hq
                            rw [List.mem_map] at hq
                            obtain ⟨a, _, rfl⟩ := hq
                            exact tyName_ok _ _ hn) (fun q hq => by
                            rw [ps_names]
                            unfold fsOf at hq
                            rw [List.mem_map] at hq
                            obtain ⟨a, ha, rfl⟩ := hq
                            obtain ⟨z, hz, rfl⟩ := List.getElem_of_mem ha
                            exact drawn_good _ _ _ hn (HFA.out z hz)) (by rw [HFSL.out]; omega) (fun m hm => by
                            rw [ps_names]
                            rw [List.mem_map] at hm
                            obtain ⟨a, ha, rfl⟩ := hm
                            obtain ⟨z, hz, rfl⟩ := List.getElem_of_mem ha
                            exact mdOf_goodIn np hn _ (HMA.out z hz)) (by simp; omega)
                          rw [HWT.out] at htd
                          have HTD : Hid (Calls Ybad.prog 11 _ (w8.alloc (Obj.cells #[.pointer (some ⟨p.sh, 0, none⟩), .slice (some ⟨p.tb, 0, none⟩) 3 3, .slice (some ⟨p.nb, 0, none⟩) 3 3] 75)) _) := htd
                          have HB9 : Hid (Below S w (w8.alloc (Obj.cells #[.pointer (some ⟨p.sh, 0, none⟩), .slice (some ⟨p.tb, 0, none⟩) 3 3, .slice (some ⟨p.nb, 0, none⟩) 3 3] 75)) ∧ S ≤ (w8.alloc (Obj.cells #[.pointer (some ⟨p.sh, 0, none⟩), .slice (some ⟨p.tb, 0, none⟩) 3 3, .slice (some ⟨p.nb, 0, none⟩) 3 3] 75)).heap.size) := ⟨hmi9.lw.b, hS9⟩
                          unfold NBlk.val at HTD ⊢
                          clear htd hd9 hN9 hmi9 hb9 hbp hb8' hpF hN8 hb8 hbo HMI HRT HFR hcur hmk
                          go_wp2_with fail
                          refine HTD.out.mono ?_
                          rintro e w9 ⟨rfl, hb10⟩
                          have HBF : Hid (Below S w w9) := HB9.out.1.trans (hb10.mono HB9.out.2)
                          clear HTD HB9 hb10
                          go_wp2_with fail
                          go_ret
                          exact ⟨rfl, by rw [hS]; exact HBF.out⟩
end Go.Proofs.YbulkbmowDoor
