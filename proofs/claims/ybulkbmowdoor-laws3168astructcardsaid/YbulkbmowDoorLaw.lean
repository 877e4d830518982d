/-
  LawS3168AStruct, walked.
-/
import Derived.Test.YbulkbmowDoorLw
namespace Go.Proofs.YbulkbmowDoor
open Go.RowKit Go

set_option maxRecDepth 100000 in
set_option maxHeartbeats 20000000 in
theorem law_struct (L : Nat) (w : World) (t0 t1 t2 n0 n1 n2 : Int) (at8 np8 b0 b1 : Nat) (fv mv : Value) (fl : List (Nat × List Nat)) (ml : List MIn) (ht : Tab L w) (hL : L ≤ w.heap.size) (f0 : Fits t0) (f1 : Fits t1) (f2 : Fits t2) (g0 : Fits n0) (g1 : Fits n1) (g2 : Fits n2) (hb0 : b0 < 256) (hb1 : b1 < 256) (hat : at8 < 256) (hnp : np8 < 256) (hf : InF w fv fl) (hm : InM w mv ml) :
    Calls Ybad.prog 3 #[.int .i64 t0, .int .i64 t1, .int .i64 t2, .int .i64 n0, .int .i64 n1, .int .i64 n2, .int .u8 at8, .int .u8 np8, .agg #[.int .u8 b0, .int .u8 b1], fv, mv] w fun e w' => e = .returned (.bool true) ∧ Below w.heap.size w w' := by
  obtain ⟨fa, fc, rfl, hfr⟩ := id hf
  obtain ⟨ma, mc, rfl, hmr⟩ := id hm
  have HTAB : Hid (Tab L w) := ht
  have HF : Hid (0 < fl.length → ∃ g o, fa = some ⟨g, o, none⟩ ∧ ∀ j (h : j < fl.length), fl[j].1 < 256 ∧ w.cell? ⟨g, o + j * 2, none⟩ = some (.int .u8 fl[j].1) ∧ ∃ av, w.cell? ⟨g, o + j * 2 + 1, none⟩ = some av ∧ U8Row w av fl[j].2) := hfr
  have HM : Hid (0 < ml.length → ∃ g o, ma = some ⟨g, o, none⟩ ∧ ∀ j (h : j < ml.length), ml[j].nm < 256 ∧ ml[j].rs < 256 ∧ w.cell? ⟨g, o + j * 3, none⟩ = some (.int .u8 ml[j].nm) ∧ w.cell? ⟨g, o + j * 3 + 2, none⟩ = some (.int .u8 ml[j].rs) ∧ ∃ av, w.cell? ⟨g, o + j * 3 + 1, none⟩ = some av ∧ U8Row w av ml[j].ps) := hmr
  have HS0 : Hid ((w.alloc (Obj.cells #[.int .u8 b0, .int .u8 b1] 22)).heap[w.heap.size]? = some (.cells #[.int .u8 b0, .int .u8 b1] 22 (0, 0)) ∧ Below w.heap.size w (w.alloc (Obj.cells #[.int .u8 b0, .int .u8 b1] 22))) := ⟨heap_alloc_newD _ _, (Below.refl _ w).alloc (Nat.le_refl _) _⟩
  clear ht hf hm hfr hmr
  by_cases hlf : 300 < fl.length
  · have hlf' : (300 : Int) < (fl.length : Int) := by omega
    go_enter Ybad.func3, Ybad.ntmps3
    go_wp2_with fail
    go_ret
    exact ⟨rfl, HS0.out.2⟩
  by_cases hlm : 300 < ml.length
  · have hlf' : ¬ (300 : Int) < (fl.length : Int) := by omega
    have hlm' : (300 : Int) < (ml.length : Int) := by omega
    go_enter Ybad.func3, Ybad.ntmps3
    go_wp2_with fail
    go_ret
    exact ⟨rfl, HS0.out.2⟩
  have hlf' : ¬ (300 : Int) < (fl.length : Int) := by omega
  have hlm' : ¬ (300 : Int) < (ml.length : Int) := by omega
  go_enter Ybad.func3, Ybad.ntmps3
  go_wp2_with fail
  clear hlf' hlm'
  generalize w.alloc (Obj.cells #[.int .u8 b0, .int .u8 b1] 22) = W0 at *
  generalize hS : w.heap.size = S at *
  go_loopw [64] (fun x wr => ∃ j : Nat, j ≤ fl.length ∧ x = .int .i64 j ∧ (∀ q (h : q < fl.length), q < j → fl[q].2.length ≤ 300) ∧ wr.heap[S]? = some (.cells #[.int .u8 b0, .int .u8 b1] 22 (0, 0)) ∧ Below S w wr) (fun x _ => fl.length - (intOf x).toNat)
  case atStart => exact ⟨0, Nat.zero_le _, rfl, fun q _ h => absurd h (Nat.not_lt_zero _), HS0.out.1, HS0.out.2⟩
  case round =>
    obtain ⟨j, hj, rfl, hdone, hs, hB⟩ := hrel
    clear HS0
    have hSl : S < wr.heap.size := (Array.getElem?_eq_some_iff.1 hs).1
    by_cases hlt : j < fl.length
    · obtain ⟨g, o, rfl, hcell⟩ := HF.out (by omega)
      obtain ⟨h256, c0, av, c1, hu⟩ := hcell j hlt
      have hgS : g < S := by rw [← hS]; exact World.block_lt_of_cell? w _ c0
      have c0' := (hB.cell (p := ⟨g, o + j * 2, none⟩) hgS).trans c0
      have c1' := (hB.cell (p := ⟨g, o + j * 2 + 1, none⟩) hgS).trans c1
      obtain ⟨va, vc, rfl, hjk⟩ := hu
      clear hjk
      have hob := (Below.refl _ wr).alloc (Nat.le_refl _) (Obj.cells #[.int .u8 fl[j].1, .slice va fl[j].2.length vc] 27)
      have HN : Hid ((wr.alloc (Obj.cells #[.int .u8 fl[j].1, .slice va fl[j].2.length vc] 27)).heap[S]? = some (.cells #[.int .u8 b0, .int .u8 b1] 22 (0, 0)) ∧ Below S w (wr.alloc (Obj.cells #[.int .u8 fl[j].1, .slice va fl[j].2.length vc] 27))) := ⟨Keeps.below hob _ _ hs, hB.trans (hob.mono (by omega))⟩
      clear hcell c0 c1 hs hB hob
      by_cases hbig : 300 < fl[j].2.length
      · have hbig' : (300 : Int) < (fl[j].2.length : Int) := by omega
        generalize fl[j].2.length = len at *
        generalize fl[j].1 = sel at *
        go_wp2_with fail
        go_ret
        exact ⟨rfl, by rw [hS]; exact HN.out.2⟩
      · have hbig' : ¬ (300 : Int) < (fl[j].2.length : Int) := by omega
        have hd' : ∀ q (h : q < fl.length), q < j + 1 → fl[q].2.length ≤ 300 := fun q h hq => by
          by_cases hqe : q = j
          · subst hqe; omega
          · exact hdone q h (by omega)
        have HD : Hid (∀ q (h : q < fl.length), q < j + 1 → fl[q].2.length ≤ 300) := hd'
        clear hdone hd'
        generalize fl[j].2.length = len at *
        generalize fl[j].1 = sel at *
        go_wp2_with fail
        go_roundw
        case rel => exact ⟨j + 1, by omega, by go_num, HD.out, HN.out.1, HN.out.2⟩
        case measure => simp [intOf]; omega
    · obtain rfl : j = fl.length := by omega
      have HFA : Hid (∀ q (h : q < fl.length), fl[q].2.length ≤ 300) := fun q h => hdone q h h
      clear hdone
      go_wp2_with fail
      have HS1 : Hid (wr.heap[S]? = some (.cells #[.int .u8 b0, .int .u8 b1] 22 (0, 0)) ∧ Below S w wr) := ⟨hs, hB⟩
      clear hs hB hSl
      generalize wr = W1 at *
      go_loopw [75] (fun x wr => ∃ j : Nat, j ≤ ml.length ∧ x = .int .i64 j ∧ (∀ q (h : q < ml.length), q < j → ml[q].ps.length ≤ 300) ∧ wr.heap[S]? = some (.cells #[.int .u8 b0, .int .u8 b1] 22 (0, 0)) ∧ Below S w wr) (fun x _ => ml.length - (intOf x).toNat)
      case atStart => exact ⟨0, Nat.zero_le _, rfl, fun q _ h => absurd h (Nat.not_lt_zero _), HS1.out.1, HS1.out.2⟩
      case round =>
        obtain ⟨j, hj, rfl, hdone, hs, hB⟩ := hrel
        clear HS1
        have hSl : S < wr.heap.size := (Array.getElem?_eq_some_iff.1 hs).1
        by_cases hlt : j < ml.length
        · obtain ⟨g, o, rfl, hcell⟩ := HM.out (by omega)
          obtain ⟨h256, h257, c0, c2, av, c1, hu⟩ := hcell j hlt
          have hgS : g < S := by rw [← hS]; exact World.block_lt_of_cell? w _ c0
          have c0' := (hB.cell (p := ⟨g, o + j * 3, none⟩) hgS).trans c0
          have c1' := (hB.cell (p := ⟨g, o + j * 3 + 1, none⟩) hgS).trans c1
          have c2' := (hB.cell (p := ⟨g, o + j * 3 + 2, none⟩) hgS).trans c2
          obtain ⟨va, vc, rfl, hjk⟩ := hu
          clear hjk
          have hob := (Below.refl _ wr).alloc (Nat.le_refl _) (Obj.cells #[.int .u8 ml[j].nm, .slice va ml[j].ps.length vc, .int .u8 ml[j].rs] 29)
          have HN : Hid ((wr.alloc (Obj.cells #[.int .u8 ml[j].nm, .slice va ml[j].ps.length vc, .int .u8 ml[j].rs] 29)).heap[S]? = some (.cells #[.int .u8 b0, .int .u8 b1] 22 (0, 0)) ∧ Below S w (wr.alloc (Obj.cells #[.int .u8 ml[j].nm, .slice va ml[j].ps.length vc, .int .u8 ml[j].rs] 29))) := ⟨Keeps.below hob _ _ hs, hB.trans (hob.mono (by omega))⟩
          clear hcell c0 c1 c2 hs hB hob
          by_cases hbig : 300 < ml[j].ps.length
          · have hbig' : (300 : Int) < (ml[j].ps.length : Int) := by omega
            generalize ml[j].ps.length = len at *
            generalize ml[j].nm = sel at *
            generalize ml[j].rs = rsel at *
            go_wp2_with fail
            go_ret
            exact ⟨rfl, by rw [hS]; exact HN.out.2⟩
          · have hbig' : ¬ (300 : Int) < (ml[j].ps.length : Int) := by omega
            have hd' : ∀ q (h : q < ml.length), q < j + 1 → ml[q].ps.length ≤ 300 := fun q h hq => by
              by_cases hqe : q = j
              · subst hqe; omega
              · exact hdone q h (by omega)
            have HD : Hid (∀ q (h : q < ml.length), q < j + 1 → ml[q].ps.length ≤ 300) := hd'
            clear hdone hd'
            generalize ml[j].ps.length = len at *
            generalize ml[j].nm = sel at *
            generalize ml[j].rs = rsel at *
            go_wp2_with fail
            go_roundw
            case rel => exact ⟨j + 1, by omega, by go_num, HD.out, HN.out.1, HN.out.2⟩
            case measure => simp [intOf]; omega
        · obtain rfl : j = ml.length := by omega
          have HMA : Hid (∀ q (h : q < ml.length), ml[q].ps.length ≤ 300) := fun q h => hdone q h h
          obtain ⟨i, hi3⟩ : ∃ i, at8 % 3 = i := ⟨_, rfl⟩
          obtain ⟨np, hn3⟩ : ∃ np, np8 % 3 = np := ⟨_, rfl⟩
          have hi : i < 3 := by omega
          have hn : np ≤ 2 := by omega
          have ei : (at8 : Int) % 3 = (i : Int) := by omega
          have en : (np8 : Int) % 3 = (np : Int) := by omega
          have HS2 : Hid (wr.heap[S]? = some (.cells #[.int .u8 b0, .int .u8 b1] 22 (0, 0)) ∧ Below S w wr) := ⟨hs, hB⟩
          clear hdone hs hB hSl
          go_wp2_with fail
          refine (name_any i hi _).mono ?_
          rintro e w0 ⟨rfl, rfl⟩
          have HL0 : Hid (LwSt S _ _ _ _ w _ b0 b1 t0 t1 t2 n0 n1 n2 (nameOf i) (.slice none 0 0) (.slice none 0 0)) := lw_start t0 t1 t2 n0 n1 n2 (nameOf i) HS2.out.1 HS2.out.2
          clear HS2
          go_wp2_with fail
          generalize ((wr.alloc (.cells #[.int .i64 t0, .int .i64 t1, .int .i64 t2] 30)).alloc (.cells #[.int .i64 n0, .int .i64 n1, .int .i64 n2] 30)).alloc (.cells #[.int .i64 0, .int .i64 0, .string (nameOf i), .slice none 0 0, .slice none 0 0] 40) = W2 at *
          generalize wr.heap.size = TN at *
          have hscl : (scopeOf np).length ≤ 100 := by unfold scopeOf; simp; omega
          obtain ⟨i47, hi47, hz47, hs47, hb47⟩ := info_parts info47
          have hbl : ((List.range np).map fun j => leaf t0 t1 t2 (scopeOf np) (tyName (bnd b0 b1 j) np)).length = np := by simp
          have hpl : (psOf np b0 b1).length = np := by simp [psOf]
          have HPL : Hid ((psOf np b0 b1).length = np) := hpl
          have hbsz : ∀ n, (semis (((List.range np).map fun j => leaf t0 t1 t2 (scopeOf np) (tyName (bnd b0 b1 j) np)).take n)).size ≤ n * 23 := semis_size _ 22 (fun a ha => by
            rw [List.mem_map] at ha
            obtain ⟨q, _, rfl⟩ := ha
            exact leaf_size f0 f1 f2 (scopeOf np) hscl _)
          have HBZ : Hid (∀ n, (semis (((List.range np).map fun j => leaf t0 t1 t2 (scopeOf np) (tyName (bnd b0 b1 j) np)).take n)).size ≤ n * 23) := hbsz
          clear hbsz hpl
          have hs83 : (⟨#[83, 60]⟩ : ByteArray).size = 2 := rfl
          go_loopw [32, 33] (fun tx x wr => ∃ j : Nat, j ≤ np ∧ x = .int .i64 j ∧ tx = .string (⟨#[83, 60]⟩ ++ semis (((List.range np).map fun j => leaf t0 t1 t2 (scopeOf np) (tyName (bnd b0 b1 j) np)).take j)) ∧ ∃ pv, wr.ownsRow (TN + 1 + 1 + 1) 47 7 pv j (((psOf np b0 b1).take j).flatMap parCells) ∧ LwSt S TN (TN + 1) (TN + 1 + 1) (TN + 1 + 1 + 1) w wr b0 b1 t0 t1 t2 n0 n1 n2 (nameOf i) (pv) (.slice none 0 0)) (fun _ x _ => np - (intOf x).toNat)
          case atStart => exact ⟨0, Nat.zero_le _, rfl, by simp [semis], _, by simpa using World.ownsRow_nil _ _ _ _, HL0.out⟩
          case round =>
            obtain ⟨j, hj, rfl, rfl, pv, hown, hlw⟩ := hrel
            clear HL0
            have hbz := HBZ.out j
            have hasz : (⟨#[83, 60]⟩ ++ semis (((List.range np).map fun j => leaf t0 t1 t2 (scopeOf np) (tyName (bnd b0 b1 j) np)).take j)).size ≤ 1000 := by rw [ByteArray.size_append]; omega
            by_cases hlt : j < np
            · have hj2 : j < 2 := by omega
              have y0 : wr.cell? ⟨S, j, none⟩ = some (.int .u8 (bnd b0 b1 j)) := by
                match j, hj2 with
                | 0, _ => exact cell_row (j := 0) hlw.s rfl
                | 1, _ => exact cell_row (j := 1) hlw.s rfl
              have hbn : bnd b0 b1 j < 256 := by unfold bnd; split <;> omega
              have a0 := cell_row (j := 0) hlw.tn rfl
              have a1 := cell_row (j := 1) hlw.tn rfl
              have a2 := cell_row (j := 2) hlw.tn rfl
              have j0 : (0 : Int) ≤ (j : Int) := by omega
              have j1 : (j : Int) < 2 := by omega
              have j2 : (j : Int) < (np : Int) := by omega
              have hSl : S < wr.heap.size := (Array.getElem?_eq_some_iff.1 hlw.s).1
              have hTl : TN < wr.heap.size := (Array.getElem?_eq_some_iff.1 hlw.tn).1
              have o3 := hlw.o3
              have HSN : Hid (semis (((List.range np).map fun j => leaf t0 t1 t2 (scopeOf np) (tyName (bnd b0 b1 j) np)).take (j + 1)) = semis (((List.range np).map fun j => leaf t0 t1 t2 (scopeOf np) (tyName (bnd b0 b1 j) np)).take j) ++ leaf t0 t1 t2 (scopeOf np) (tyName (bnd b0 b1 j) np) ++ ⟨#[59]⟩) := by
                show _ = _
                rw [List.take_succ_eq_append_getElem (by simpa using hlt), semis_snoc]
                simp
              have HFL : Hid (((psOf np b0 b1).take (j + 1)).flatMap parCells = ((psOf np b0 b1).take j).flatMap parCells ++ parCells (pnameOf j, tyName (bnd b0 b1 j) np)) := by
                show _ = _
                rw [List.take_succ_eq_append_getElem (by rw [HPL.out]; exact hlt), List.flatMap_append]
                simp [psOf]
              have hlz := leaf_size f0 f1 f2 (scopeOf np) hscl (tyName (bnd b0 b1 j) np)
              have HCL : Hid (∀ W, Below wr.heap.size wr W → Calls Ybad.prog 6 #[.int .u8 (bnd b0 b1 j), .slice none 0 0, .int .i64 np, .agg #[.int .i64 t0, .int .i64 t1, .int .i64 t2]] W fun e w4 => e = .returned (.tuple #[.agg #[.int .i64 0, .int .i64 0, .string (tyName (bnd b0 b1 j) np), .slice none 0 0], .string (leaf t0 t1 t2 (scopeOf np) (tyName (bnd b0 b1 j) np))]) ∧ Below W.heap.size W w4) := fun W hW => by
                have hTb : Tab L W := HTAB.out.below (hlw.below hW).b hL
                refine (ty_any L (bnd b0 b1 j) np (.slice none 0 0) [] W t0 t1 t2 hbn hn hTb (by have := hW.size; omega) f0 f1 f2 ⟨none, 0, rfl, fun _ h => by simp at h, fun h => by simp at h⟩ (by simp)).mono ?_
                rintro e w4 ⟨av, rfl, _, hni, hb4⟩
                rw [hni rfl]
                refine ⟨?_, hb4⟩
                unfold drawn tyText tyV
                rw [tyArgs_nil, if_pos rfl]
              have HOW : Hid (wr.ownsRow (TN + 1 + 1 + 1) 47 7 pv j (((psOf np b0 b1).take j).flatMap parCells)) := hown
              have HLW : Hid (LwSt S TN (TN + 1) (TN + 1 + 1) (TN + 1 + 1 + 1) w wr b0 b1 t0 t1 t2 n0 n1 n2 (nameOf i) (pv) (.slice none 0 0)) := hlw
              clear hown hlw
              generalize ((psOf np b0 b1).take j).flatMap parCells = pcs at *
              generalize semis (((List.range np).map fun j => leaf t0 t1 t2 (scopeOf np) (tyName (bnd b0 b1 j) np)).take j) = sj at *
              generalize leaf t0 t1 t2 (scopeOf np) (tyName (bnd b0 b1 j) np) = lf at *
              generalize tyName (bnd b0 b1 j) np = tx at *
              generalize bnd b0 b1 j = bj at *
              go_wp2_with fail
              go_cut [34, 35] (fun a tq wc => ∃ K, a = .pointer (some ⟨K, 0, none⟩) ∧ tq = .string lf ∧ wc.heap[K]? = some (.cells #[.int .i64 0, .int .i64 0, .string tx, .slice none 0 0] 43 (0, 0)) ∧ wc.ownsRow (TN + 1 + 1 + 1) 47 7 pv j pcs ∧ LwSt S TN (TN + 1) (TN + 1 + 1) (TN + 1 + 1 + 1) w wc b0 b1 t0 t1 t2 n0 n1 n2 (nameOf i) (pv) (.slice none 0 0))
              case first =>
                go_region_law (first | (go_simp; go_at_call 6; refine (HCL.out _ ?_).mono ?_; (exact ⟨rfl, rfl, rfl, Nat.le_refl _, fun _ _ => rfl⟩); rintro e w4 ⟨rfl, hb4⟩; have hbq : Below wr.heap.size wr w4 := ⟨hb4.os, hb4.tape, hb4.output, hb4.size, hb4.block⟩) | (go_simp; go_at_call 6; refine (HCL.out _ ?_).mono ?_; (exact ⟨rfl, rfl, rfl, by simp, fun k hk => heap_alloc_oldD wr _ hk⟩); rintro e w4 ⟨rfl, hb4⟩; have hz4 : wr.heap.size + 1 ≤ w4.heap.size := (by have := hb4.size; simpa using this); have hbq : Below wr.heap.size wr w4 := ⟨hb4.os, hb4.tape, hb4.output, (by omega), fun k hk => (hb4.block k (by simp; omega)).trans (heap_alloc_oldD wr _ hk)⟩; have hr4 := (hb4.block wr.heap.size (by simp)).trans (heap_alloc_newD wr _); have v0 := cell_row (j := 0) hr4 rfl; have v1 := cell_row (j := 1) hr4 rfl; have v2 := cell_row (j := 2) hr4 rfl; have v3 := cell_row (j := 3) hr4 rfl; have vf : ∀ j, w4.frozen? ⟨wr.heap.size, j, none⟩ = false := fun j => (by simp [World.frozen?, hr4])))
                all_goals go_wp2_with fail
                all_goals go_meet
                all_goals (case rel => first | (obtain ⟨p1, p2⟩ := row43_set (x := tx) (v := .slice none 0 0) rfl hbq hr4; exact ⟨_, rfl, rfl, p2, owns_below HOW.out p1, HLW.out.below p1⟩) | (obtain ⟨p1, p2⟩ := row43_new (x := tx) (v := .slice none 0 0) hbq; exact ⟨_, rfl, rfl, p2, owns_below HOW.out p1, HLW.out.below p1⟩))
              case rest =>
                obtain ⟨K, rfl, rfl, hK, hown, hlw⟩ := hcut
                clear HOW HLW HCL y0 a0 a1 a2 hSl hTl o3
                have u0 := cell_row (j := 0) hK rfl
                have u1 := cell_row (j := 1) hK rfl
                have u2 := cell_row (j := 2) hK rfl
                have u3 := cell_row (j := 3) hK rfl
                have d3 := cell_row (j := 3) hlw.d rfl
                have df : ∀ j, wc.frozen? ⟨TN + 1 + 1, j, none⟩ = false := fun j => by simp [World.frozen?, hlw.d]
                have hKl : K < wc.heap.size := (Array.getElem?_eq_some_iff.1 hK).1
                have o3 := hlw.o3
                have hDl : TN + 1 + 1 < wc.heap.size := by omega
                have HOW : Hid (wc.ownsRow (TN + 1 + 1 + 1) 47 7 pv j pcs) := hown
                have HLW : Hid (LwSt S TN (TN + 1) (TN + 1 + 1) (TN + 1 + 1 + 1) w wc b0 b1 t0 t1 t2 n0 n1 n2 (nameOf i) (pv) (.slice none 0 0)) := hlw
                clear hown hlw hK
                go_wp2_with fail
                go_cut [] (fun wd => ∃ pv', wd.ownsRow (TN + 1 + 1 + 1) 47 7 pv' (j + 1) (pcs ++ parCells (pnameOf j, tx)) ∧ LwSt S TN (TN + 1) (TN + 1 + 1) (TN + 1 + 1 + 1) w wd b0 b1 t0 t1 t2 n0 n1 n2 (nameOf i) (pv') (.slice none 0 0))
                case first =>
                  go_region_law (first | (refine step_append_lies _ (by rfl) (.tmp 121) (.tmp 127) 37 (by rfl) (TN + 1 + 1 + 1) 47 i47 _ 7 88 Ybad.underlying37 hi47 hz47 hs47 hb47 (by rfl) (by decide) pv j pcs (by rfl) (by exact HOW.out.alloc _) _ 1 1 (parCells (pnameOf j, tx)) (by rfl) (by rfl) (by exact World.news_of_block (cs := #[.int .i64 0, .int .i64 0, .string (pnameOf j), .int .i64 0, .int .i64 0, .string tx, .slice none 0 0]) (heap_alloc_newD wc _)) (by intro u hu; simp [parCells] at hu; rcases hu with rfl | rfl | rfl | rfl | rfl <;> rfl) (by decide) (by unfold maxLen; omega) (by omega) (by simp; omega) _ rfl ?_; intro g5 cap5 w2 hown5 hgrow5 hat5 hlt5; have hgr : (wc.alloc (.cells #[.int .i64 0, .int .i64 0, .string (pnameOf j), .int .i64 0, .int .i64 0, .string tx, .slice none 0 0] 47)).grownBy w2 pv.ownBlock := ⟨hgrow5.os, hgrow5.tape, hgrow5.output, hgrow5.size, hgrow5.block⟩; have hG := grew (i := 3) HOW.out HLW.out.d (Nat.lt_succ_self _) o3 hgr hown5; have hd5 := far_row HOW.out HLW.out.d (Nat.lt_succ_self _) o3 hgr; have d35 := cell_row (j := 3) hd5 rfl; have df5 : ∀ j, w2.frozen? ⟨TN + 1 + 1, j, none⟩ = false := fun j => (by simp [World.frozen?, hd5])) | (go_simp; go_at_call 7; refine (pname_any j hj2 _).mono ?_; rintro e w1' ⟨rfl, rfl⟩))
                  all_goals go_wp2_with fail
                  all_goals go_meet
                  all_goals (case rel => exact ⟨_, hG.own, HLW.out.grewP hG⟩)
                case rest =>
                  obtain ⟨pv', hown', hlw'⟩ := hcut
                  clear HOW HLW u0 u1 u2 u3 d3 df hKl hDl o3
                  have hs59 : (⟨#[59]⟩ : ByteArray).size = 1 := rfl
                  have hsum : (lf ++ ⟨#[59]⟩).size ≤ 23 := by rw [ByteArray.size_append]; omega
                  go_wp2_with fail
                  go_roundw
                  case rel => exact ⟨j + 1, by omega, by go_num, by rw [HSN.out]; simp [ByteArray.append_assoc], pv', by rw [HFL.out]; exact hown', hlw'⟩
                  case measure => simp [intOf]; omega
            · obtain rfl : np = j := by omega
              have e1 : ((List.range np).map fun j => leaf t0 t1 t2 (scopeOf np) (tyName (bnd b0 b1 j) np)).take np = ((List.range np).map fun j => leaf t0 t1 t2 (scopeOf np) (tyName (bnd b0 b1 j) np)) := List.take_of_length_le (by simp)
              have e2 : (psOf np b0 b1).take np = (psOf np b0 b1) := List.take_of_length_le (by rw [HPL.out]; exact Nat.le_refl _)
              rw [e2] at hown
              have hpr : ParRow wr pv (psOf np b0 b1) := parRow_own (B := TN + 1 + 1 + 1) (by rw [HPL.out]; exact hown)
              obtain ⟨pa, pc, hpv, _⟩ := id hpr
              rw [HPL.out] at hpv
              subst hpv
              rw [e1] at hasz
              rw [e1]
              have HLW : Hid (LwSt S TN (TN + 1) (TN + 1 + 1) (TN + 1 + 1 + 1) w wr b0 b1 t0 t1 t2 n0 n1 n2 (nameOf i) (.slice pa np pc) (.slice none 0 0)) := hlw
              have HPR : Hid (ParRow wr (.slice pa np pc) (psOf np b0 b1)) := hpr
              clear hown hlw hpr e1 e2 HBZ hbl
              generalize hw1 : semis ((List.range np).map fun j => leaf t0 t1 t2 (scopeOf np) (tyName (bnd b0 b1 j) np)) = sb at *
              have HSB : Hid (semis ((List.range np).map fun j => leaf t0 t1 t2 (scopeOf np) (tyName (bnd b0 b1 j) np)) = sb) := hw1
              clear hw1
              have hs2 : (⟨#[62, 123]⟩ : ByteArray).size = 2 := rfl
              have hA1 : (⟨#[83, 60]⟩ ++ sb ++ ⟨#[62, 123]⟩).size ≤ 1002 := by rw [ByteArray.size_append]; omega
              go_wp2_with fail
              generalize hac : ⟨#[83, 60]⟩ ++ sb ++ ⟨#[62, 123]⟩ = acc1 at *
              have HAC1 : Hid (⟨#[83, 60]⟩ ++ sb ++ ⟨#[62, 123]⟩ = acc1) := hac
              clear hac
              obtain ⟨i49, hi49, hz49, hs49, hb49⟩ := info_parts info49
              have HFZ : Hid (∀ n, (semis ((fl.map fun q => drawn t0 t1 t2 q.1 np q.2).take n)).size ≤ n * 7001) := semis_size _ 7000 (fun a ha => by
                rw [List.mem_map] at ha
                obtain ⟨q, hq, rfl⟩ := ha
                obtain ⟨z, hz, rfl⟩ := List.getElem_of_mem hq
                exact tyText_size f0 f1 f2 (scopeOf np) hscl _ _ (drawn_good _ np _ hn (HFA.out z hz)).2.2.2)
              have HFSL : Hid ((fsOf np fl).length = fl.length) := by show _ = _; simp [fsOf]
              go_loopw [32, 139] (fun tx x wr => ∃ j : Nat, j ≤ fl.length ∧ x = .int .i64 j ∧ tx = .string (acc1 ++ semis ((fl.map fun q => drawn t0 t1 t2 q.1 np q.2).take j)) ∧ ParRow wr (.slice pa np pc) (psOf np b0 b1) ∧ ∃ fv l, l.length = j ∧ wr.ownsRow (TN + 1 + 1 + 1) 49 7 fv j (l.flatMap fldCells) ∧ Match wr l ((fsOf np fl).take j) ∧ LwSt S TN (TN + 1) (TN + 1 + 1) (TN + 1 + 1 + 1) w wr b0 b1 t0 t1 t2 n0 n1 n2 (nameOf i) (.slice pa np pc) (fv)) (fun _ x _ => fl.length - (intOf x).toNat)
              case atStart => exact ⟨0, Nat.zero_le _, rfl, by simp [semis], HPR.out, _, [], rfl, by simpa using World.ownsRow_nil _ _ _ _, by simpa using Match.nil _, HLW.out⟩
              case round =>
                obtain ⟨j, hj, rfl, rfl, hpr, fv, l, hlj, hown, hm, hlw⟩ := hrel
                clear HLW HPR
                have hfz := HFZ.out j
                have hasz' : (acc1 ++ semis ((fl.map fun q => drawn t0 t1 t2 q.1 np q.2).take j)).size ≤ 3000000 := by rw [ByteArray.size_append]; omega
                by_cases hlt : j < fl.length
                · obtain ⟨g, o, rfl, hcell⟩ := HF.out (by omega)
                  obtain ⟨h256, c0, av, c1, hu⟩ := hcell j hlt
                  have hgS : g < S := by rw [← hS]; exact World.block_lt_of_cell? w _ c0
                  have c0' := (hlw.b.cell (p := ⟨g, o + j * 2, none⟩) hgS).trans c0
                  have c1' := (hlw.b.cell (p := ⟨g, o + j * 2 + 1, none⟩) hgS).trans c1
                  have hlen := HFA.out j hlt
                  have hSl : S < wr.heap.size := (Array.getElem?_eq_some_iff.1 hlw.s).1
                  have hTl : TN < wr.heap.size := (Array.getElem?_eq_some_iff.1 hlw.tn).1
                  have a0 := cell_row (j := 0) hlw.tn rfl
                  have a1 := cell_row (j := 1) hlw.tn rfl
                  have a2 := cell_row (j := 2) hlw.tn rfl
                  obtain ⟨va, vc, rfl, hjk⟩ := id hu
                  clear hjk
                  have hbo := (Below.refl _ wr).alloc (Nat.le_refl _) (Obj.cells #[.int .u8 fl[j].1, .slice va fl[j].2.length vc] 27)
                  have hlwX := hlw.below hbo
                  have HCL : Hid (Calls Ybad.prog 6 _ (wr.alloc (Obj.cells #[.int .u8 fl[j].1, .slice va fl[j].2.length vc] 27)) _) := ty_any L fl[j].1 np (.slice va fl[j].2.length vc) fl[j].2 _ t0 t1 t2 h256 hn (HTAB.out.below hlwX.b hL) (by have := hbo.size; omega) f0 f1 f2 ((hu.below (show Below w.heap.size w wr by rw [hS]; exact hlw.b)).below hbo) hlen
                  have HSN : Hid (semis ((fl.map fun q => drawn t0 t1 t2 q.1 np q.2).take (j + 1)) = semis ((fl.map fun q => drawn t0 t1 t2 q.1 np q.2).take j) ++ drawn t0 t1 t2 fl[j].1 np fl[j].2 ++ ⟨#[59]⟩) := by
                    show _ = _
                    rw [List.take_succ_eq_append_getElem (by simpa using hlt), semis_snoc]
                    simp
                  have HFL : Hid ((fsOf np fl).take (j + 1) = (fsOf np fl).take j ++ [(tyName fl[j].1 np, tyArgs fl[j].1 np fl[j].2)]) := by
                    show _ = _
                    rw [List.take_succ_eq_append_getElem (by rw [HFSL.out]; exact hlt)]
                    simp [fsOf]
                  have hdz : (drawn t0 t1 t2 fl[j].1 np fl[j].2).size ≤ 7000 := tyText_size f0 f1 f2 (scopeOf np) hscl _ _ (drawn_good _ np _ hn hlen).2.2.2
                  have HLW : Hid (LwSt S TN (TN + 1) (TN + 1 + 1) (TN + 1 + 1 + 1) w _ b0 b1 t0 t1 t2 n0 n1 n2 (nameOf i) (.slice pa np pc) (fv)) := hlwX
                  have HPR : Hid (ParRow _ (.slice pa np pc) (psOf np b0 b1)) := hpr.below hbo
                  have HOW : Hid (World.ownsRow _ (TN + 1 + 1 + 1) 49 7 fv j (l.flatMap fldCells)) := owns_below hown hbo
                  have HMT : Hid (Match _ l ((fsOf np fl).take j)) := hm.keeps (Keeps.below hbo)
                  clear hlwX hlw hpr hown hm hu hcell c0 c1 hbo
                  generalize (fsOf np fl).take j = fsj at *
                  generalize semis ((fl.map fun q => drawn t0 t1 t2 q.1 np q.2).take j) = sj at *
                  generalize drawn t0 t1 t2 fl[j].1 np fl[j].2 = dj at *
                  generalize tyName fl[j].1 np = tx at *
                  generalize tyArgs fl[j].1 np fl[j].2 = ta at *
                  generalize fl[j].2.length = len at *
                  generalize fl[j].1 = sel at *
                  go_wp2_with fail
                  refine HCL.out.mono ?_
                  rintro e w4 ⟨av, rfl, hta, hni, hb4⟩
                  clear hni HCL
                  obtain ⟨xa, xc, rfl, hjk⟩ := id hta
                  clear hjk
                  unfold tyV
                  have hB5 := hb4.alloc hb4.size (Obj.cells #[.int .i64 0, .int .i64 0, .string tx, .slice xa ta.length xc] 43)
                  have hta5 := hta.keeps (Keeps.alloc 43 w4 (Obj.cells #[.int .i64 0, .int .i64 0, .string tx, .slice xa ta.length xc] 43))
                  have hlw5 := HLW.out.below hB5
                  have hpr5 := HPR.out.below hB5
                  have how5 := owns_below HOW.out hB5
                  have hmt5 := HMT.out.keeps (Keeps.below hB5)
                  have hK := heap_alloc_newD w4 (Obj.cells #[.int .i64 0, .int .i64 0, .string tx, .slice xa ta.length xc] 43)
                  have HS5 : Hid (LwSt S TN (TN + 1) (TN + 1 + 1) (TN + 1 + 1 + 1) w _ b0 b1 t0 t1 t2 n0 n1 n2 (nameOf i) (.slice pa np pc) (fv) ∧ ParRow _ (.slice pa np pc) (psOf np b0 b1) ∧ World.ownsRow _ (TN + 1 + 1 + 1) 49 7 fv j (l.flatMap fldCells) ∧ Match _ l fsj ∧ TyArgs _ (.slice xa ta.length xc) ta ∧ _ = some (Obj.cells #[.int .i64 0, .int .i64 0, .string tx, .slice xa ta.length xc] 43)) := ⟨hlw5, hpr5, how5, hmt5, hta5, hK⟩
                  clear hta hb4 hB5 hta5 hlw5 hpr5 how5 hmt5 hK HLW HPR HOW HMT c0' c1' a0 a1 a2 hSl hTl
                  go_wp2_with fail
                  generalize w4.alloc (Obj.cells #[.int .i64 0, .int .i64 0, .string tx, .slice xa ta.length xc] 43) = W5 at *
                  generalize w4.heap.size = K at *
                  obtain ⟨hlw, hpr, hown, hm, hta, hK⟩ := HS5.out
                  clear HS5
                  have u0 := cell_row (j := 0) hK rfl
                  have u1 := cell_row (j := 1) hK rfl
                  have u2 := cell_row (j := 2) hK rfl
                  have u3 := cell_row (j := 3) hK rfl
                  have d4 := cell_row (j := 4) hlw.d rfl
                  have df : ∀ j, W5.frozen? ⟨TN + 1 + 1, j, none⟩ = false := fun j => by simp [World.frozen?, hlw.d]
                  have hKl : K < W5.heap.size := (Array.getElem?_eq_some_iff.1 hK).1
                  have o3 := hlw.o3
                  have hDl : TN + 1 + 1 < W5.heap.size := by omega
                  have HOW : Hid (W5.ownsRow (TN + 1 + 1 + 1) 49 7 fv j (l.flatMap fldCells)) := hown
                  have HLW : Hid (LwSt S TN (TN + 1) (TN + 1 + 1) (TN + 1 + 1 + 1) w W5 b0 b1 t0 t1 t2 n0 n1 n2 (nameOf i) (.slice pa np pc) (fv)) := hlw
                  have HR5 : Hid (ParRow W5 (.slice pa np pc) (psOf np b0 b1) ∧ Match W5 l fsj ∧ TyArgs W5 (.slice xa ta.length xc) ta) := ⟨hpr, hm, hta⟩
                  clear hown hlw hK hpr hm hta
                  go_cut [] (fun wd => ∃ fv', wd.ownsRow (TN + 1 + 1 + 1) 49 7 fv' (j + 1) (l.flatMap fldCells ++ fldCells (tx, .slice xa ta.length xc)) ∧ Match wd (l ++ [(tx, .slice xa ta.length xc)]) (fsj ++ [(tx, ta)]) ∧ ParRow wd (.slice pa np pc) (psOf np b0 b1) ∧ LwSt S TN (TN + 1) (TN + 1 + 1) (TN + 1 + 1 + 1) w wd b0 b1 t0 t1 t2 n0 n1 n2 (nameOf i) (.slice pa np pc) (fv'))
                  case first =>
                    go_region_law ((refine step_append_lies _ (by rfl) (.tmp 157) (.tmp 160) 38 (by rfl) (TN + 1 + 1 + 1) 49 i49 _ 7 88 Ybad.underlying38 hi49 hz49 hs49 hb49 (by rfl) (by decide) fv j (l.flatMap fldCells) (by rfl) (by exact HOW.out.alloc _) _ 1 1 (fldCells (tx, .slice xa ta.length xc)) (by rfl) (by rfl) (by exact World.news_of_block (cs := #[.int .i64 0, .int .i64 0, .string ⟨#[]⟩, .int .i64 0, .int .i64 0, .string tx, .slice xa ta.length xc]) (heap_alloc_newD W5 _)) (by intro u hu; simp [fldCells] at hu; rcases hu with rfl | rfl | rfl | rfl | rfl <;> rfl) (by decide) (by unfold maxLen; omega) (by omega) (by simp; omega) _ rfl ?_; intro g5 cap5 w2 hown5 hgrow5 hat5 hlt5; have hgr : (W5.alloc (.cells #[.int .i64 0, .int .i64 0, .string ⟨#[]⟩, .int .i64 0, .int .i64 0, .string tx, .slice xa ta.length xc] 49)).grownBy w2 fv.ownBlock := ⟨hgrow5.os, hgrow5.tape, hgrow5.output, hgrow5.size, hgrow5.block⟩; have hG := grew (i := 4) HOW.out HLW.out.d (Nat.lt_succ_self _) o3 hgr hown5; have hd5 := far_row HOW.out HLW.out.d (Nat.lt_succ_self _) o3 hgr; have d45 := cell_row (j := 4) hd5 rfl; have df5 : ∀ j, w2.frozen? ⟨TN + 1 + 1, j, none⟩ = false := fun j => (by simp [World.frozen?, hd5])))
                    all_goals go_wp2_with fail
                    all_goals go_meet
                    all_goals (case rel => exact ⟨_, hG.own, (HR5.out.2.1.keeps (hG.keeps 43 (by decide) (by decide))).snoc _ _ _ (HR5.out.2.2.keeps (hG.keeps 43 (by decide) (by decide))), HR5.out.1.keeps (hG.keeps 47 (by decide) (by decide)), HLW.out.grewF hG⟩)
                  case rest =>
                    obtain ⟨fv', hown', hm', hpr', hlw'⟩ := hcut
                    clear HOW HLW HR5 u0 u1 u2 u3 d4 df hKl hDl o3
                    have hs59 : (⟨#[59]⟩ : ByteArray).size = 1 := rfl
                    have hsum : (dj ++ ⟨#[59]⟩).size ≤ 7001 := by rw [ByteArray.size_append]; omega
                    go_wp2_with fail
                    go_roundw
                    case rel => exact ⟨j + 1, by omega, by go_num, by rw [HSN.out]; simp [ByteArray.append_assoc], hpr', fv', l ++ [(tx, .slice xa ta.length xc)], by simp [hlj], by rw [flat_snoc]; exact hown', by rw [HFL.out]; exact hm', hlw'⟩
                    case measure => simp [intOf]; omega
                · obtain rfl : j = fl.length := by omega
                  have e1 : (fl.map fun q => drawn t0 t1 t2 q.1 np q.2).take fl.length = (fl.map fun q => drawn t0 t1 t2 q.1 np q.2) := List.take_of_length_le (by simp)
                  have e2 : (fsOf np fl).take fl.length = (fsOf np fl) := List.take_of_length_le (by rw [HFSL.out]; exact Nat.le_refl _)
                  rw [e2] at hm
                  have hfr := fldRow_own (by rw [hlj]; exact hown) hm
                  obtain ⟨f2a, f2c, hfv, _⟩ := id hfr
                  rw [HFSL.out] at hfv
                  subst hfv
                  rw [e1] at hasz'
                  rw [e1]
                  have HMI : Hid (Mid S TN w wr b0 b1 t0 t1 t2 n0 n1 n2 (nameOf i) (.slice pa np pc) (.slice f2a fl.length f2c) (psOf np b0 b1) (fsOf np fl)) := ⟨hlw, hpr, hfr⟩
                  clear hown hlw hpr hfr hm e1 e2 HFZ hfz
                  generalize hw1 : semis (fl.map fun q => drawn t0 t1 t2 q.1 np q.2) = sf at *
                  have HSF : Hid (semis (fl.map fun q => drawn t0 t1 t2 q.1 np q.2) = sf) := hw1
                  clear hw1
                  have hs3 : (⟨#[125]⟩ : ByteArray).size = 1 := rfl
                  have hA2 : (acc1 ++ sf ++ ⟨#[125]⟩).size ≤ 3000001 := by rw [ByteArray.size_append]; omega
                  go_wp2_with fail
                  generalize hac : acc1 ++ sf ++ ⟨#[125]⟩ = acc2 at *
                  have HAC2 : Hid (acc1 ++ sf ++ ⟨#[125]⟩ = acc2) := hac
                  clear hac
                  obtain ⟨i56, hi56, hz56, hs56, hb56⟩ := info_parts info56
                  obtain ⟨i9, hi9, hz9, hs9, hb9⟩ := info_parts info9
                  go_loopw [40, 41, 173] (fun dv tv x wr => ∃ j : Nat, j ≤ ml.length ∧ x = .int .i64 j ∧ Decls (TN + 1 + 1 + 1) wr dv ((ml.map fun m => mdOf 0 m).take j) ∧ wr.ownsRow (TN + 1 + 1 + 1) 9 1 tv j (((ml.map fun m => (mdOf 0 m).text t0 t1 t2 n0 n1 n2).take j).map Value.string) ∧ Mid S TN w wr b0 b1 t0 t1 t2 n0 n1 n2 (nameOf i) (.slice pa np pc) (.slice f2a fl.length f2c) (psOf np b0 b1) (fsOf np fl)) (fun _ _ x _ => ml.length - (intOf x).toNat)
                  case atStart => exact ⟨0, Nat.zero_le _, rfl, by simpa using Decls.nil _ _, by simpa using World.ownsRow_nil _ _ _ _, HMI.out⟩
                  case round =>
                    obtain ⟨j, hj, rfl, hdec, htx, hmi⟩ := hrel
                    clear HMI
                    by_cases hlt : j < ml.length
                    · obtain ⟨g, o, rfl, hcell⟩ := HM.out (by omega)
                      obtain ⟨h256, h257, c0, c2, av, c1, hu⟩ := hcell j hlt
                      have hgS : g < S := by rw [← hS]; exact World.block_lt_of_cell? w _ c0
                      have c0' := (hmi.lw.b.cell (p := ⟨g, o + j * 3, none⟩) hgS).trans c0
                      have c1' := (hmi.lw.b.cell (p := ⟨g, o + j * 3 + 1, none⟩) hgS).trans c1
                      have c2' := (hmi.lw.b.cell (p := ⟨g, o + j * 3 + 2, none⟩) hgS).trans c2
                      have hlen := HMA.out j hlt
                      have hTl : TN < wr.heap.size := (Array.getElem?_eq_some_iff.1 hmi.lw.tn).1
                      have hNl : TN + 1 < wr.heap.size := (Array.getElem?_eq_some_iff.1 hmi.lw.nn).1
                      have a0 := cell_row (j := 0) hmi.lw.tn rfl
                      have a1 := cell_row (j := 1) hmi.lw.tn rfl
                      have a2 := cell_row (j := 2) hmi.lw.tn rfl
                      have e0 := cell_row (j := 0) hmi.lw.nn rfl
                      have e1 := cell_row (j := 1) hmi.lw.nn rfl
                      have e2 := cell_row (j := 2) hmi.lw.nn rfl
                      obtain ⟨va, vc, rfl, hjk⟩ := id hu
                      clear hjk
                      have hbo := (Below.refl _ wr).alloc (Nat.le_refl _) (Obj.cells #[.int .u8 ml[j].nm, .slice va ml[j].ps.length vc, .int .u8 ml[j].rs] 29)
                      have hmiX := hmi.below hbo
                      have hSw : S ≤ wr.heap.size := by have := hmi.lw.b.size; omega
                      have HCL : Hid (Calls Ybad.prog 8 _ (wr.alloc (Obj.cells #[.int .u8 ml[j].nm, .slice va ml[j].ps.length vc, .int .u8 ml[j].rs] 29)) _) := sg_any L ml[j].nm ml[j].rs 0 (.slice va ml[j].ps.length vc) ml[j].ps _ t0 t1 t2 n0 n1 n2 h256 h257 (by omega) (HTAB.out.below hmiX.lw.b hL) (by have := hbo.size; omega) f0 f1 f2 g0 g1 g2 ((hu.below (show Below w.heap.size w wr by rw [hS]; exact hmi.lw.b)).below hbo) hlen
                      have HSN : Hid (((ml.map fun m => (mdOf 0 m).text t0 t1 t2 n0 n1 n2).take (j + 1)).map Value.string = ((ml.map fun m => (mdOf 0 m).text t0 t1 t2 n0 n1 n2).take j).map Value.string ++ [.string ((mdOf 0 ml[j]).text t0 t1 t2 n0 n1 n2)]) := by
                        show _ = _
                        rw [List.take_succ_eq_append_getElem (by simpa using hlt)]
                        simp
                      have HFL : Hid ((ml.map fun m => mdOf 0 m).take (j + 1) = (ml.map fun m => mdOf 0 m).take j ++ [mdOf 0 ml[j]]) := by
                        show _ = _
                        rw [List.take_succ_eq_append_getElem (by simpa using hlt)]
                        simp
                      have HTXE : Hid ((mdOf 0 ml[j]).text t0 t1 t2 n0 n1 n2 = ⟨#[109]⟩ ++ num (tn3 n0 n1 n2 (ml[j].nm % 3)) ++ ⟨#[45]⟩ ++ sigText t0 t1 t2 (scopeOf 0) (ml[j].ps.map fun a => (tyName a 0, [])) (tyName ml[j].rs 0) [] ++ ⟨#[61, 118, 48]⟩) := by
                        show _ = _
                        unfold MD.text
                        have e3 : (⟨#[61]⟩ ++ (⟨#[118]⟩ ++ num 0) : ByteArray) = ⟨#[61, 118, 48]⟩ := by rw [num_zero]; rfl
                        rw [← e3]
                        simp [ByteArray.append_assoc, mdOf, scopeOf]
                      have hgd := mdOf_good ml[j] hlen
                      have hsgz : (sigText t0 t1 t2 (scopeOf 0) (ml[j].ps.map fun a => (tyName a 0, [])) (tyName ml[j].rs 0) []).size ≤ 3000000 := sigText_size f0 f1 f2 (scopeOf 0) (by simp [scopeOf]) _ (by simpa using hlen) (fun q hq => by
                        rw [List.mem_map] at hq
                        obtain ⟨a, _, rfl⟩ := hq
                        simp) _ [] (by simp)
                      have hnz := num_size _ (fits_tn g0 g1 g2 (ml[j].nm % 3))
                      have hmk3 : (mdOf 0 ml[j]).k = ml[j].nm % 3 := rfl
                      have HME : Hid (∀ W M V pv' rav', W.heap[M]? = some (.cells (methCells (mnameOf (ml[j].nm % 3)) pv' (tyName ml[j].rs 0) rav' V) 64 (0, 0)) → W.heap[V]? = some (.cells #[.int .i64 0, .int .i64 0, .string ⟨#[]⟩] 58 (0, 0)) → FldRow W pv' (ml[j].ps.map fun a => (tyName a 0, [])) → TyArgs W rav' [] → MethAt W M (mdOf 0 ml[j])) := fun W M V pv' rav' x1 x2 x3 x4 => ⟨pv', rav', V, x1, x2, x3, x4⟩
                      have HMI : Hid (Mid S TN w _ b0 b1 t0 t1 t2 n0 n1 n2 (nameOf i) (.slice pa np pc) (.slice f2a fl.length f2c) (psOf np b0 b1) (fsOf np fl)) := hmiX
                      have HDC : Hid (Decls (TN + 1 + 1 + 1) _ u40 ((ml.map fun m => mdOf 0 m).take j)) := hdec.keeps (fun _ _ => Keeps.below hbo)
                      have HTX : Hid (World.ownsRow _ (TN + 1 + 1 + 1) 9 1 u41 j (((ml.map fun m => (mdOf 0 m).text t0 t1 t2 n0 n1 n2).take j).map Value.string)) := owns_below htx hbo
                      have HLT : Hid (((ml.map fun m => mdOf 0 m).take j).length = j) := by show _ = _; simp; omega
                      clear hmiX hmi hdec htx hu hcell c0 c1 c2 hbo hgd hmk3
                      generalize (ml.map fun m => mdOf 0 m).take j = mj at *
                      generalize ((ml.map fun m => (mdOf 0 m).text t0 t1 t2 n0 n1 n2).take j).map Value.string = xj at *
                      generalize (mdOf 0 ml[j]).text t0 t1 t2 n0 n1 n2 = tj at *
                      generalize mdOf 0 ml[j] = mdj at *
                      generalize num (tn3 n0 n1 n2 (ml[j].nm % 3)) = nj at *
                      generalize mnameOf (ml[j].nm % 3) = mk at *
                      generalize tyName ml[j].rs 0 = rx at *
                      generalize sigText t0 t1 t2 (scopeOf 0) (ml[j].ps.map fun a => (tyName a 0, [])) rx [] = sg at *
                      generalize (ml[j].ps.map fun a => (tyName a 0, ([] : List ByteArray))) = fj at *
                      generalize ml[j].ps.length = len at *
                      generalize ml[j].nm = sel at *
                      generalize ml[j].rs = rsel at *
                      go_wp2_with fail
                      refine HCL.out.mono ?_
                      rintro e w4 ⟨pv', rav', rfl, hfl4, hta4, hb4⟩
                      clear HCL
                      obtain ⟨xa, xc, rfl, hjk⟩ := id hfl4
                      clear hjk
                      obtain ⟨ya, yc, hyv, hjk⟩ := id hta4
                      clear hjk
                      rw [List.length_nil] at hyv
                      subst hyv
                      unfold sigV
                      have hY4 : Below w4.heap.size w4 ((((w4.alloc (Obj.cells #[.int .i64 0, .int .i64 0, .string mk] 36)).alloc (Obj.cells #[.slice none 0 0, .slice xa fj.length xc, .int .i64 0, .int .i64 0, .string rx, .slice ya 0 yc] 53)).alloc (Obj.cells #[.int .i64 0, .int .i64 0, .string ⟨#[]⟩] 58)).alloc (Obj.cells (methCells mk (.slice xa fj.length xc) rx (.slice ya 0 yc) (w4.heap.size + 1 + 1)) 64)) := ((two_below w4 (Obj.cells #[.int .i64 0, .int .i64 0, .string mk] 36) (Obj.cells #[.slice none 0 0, .slice xa fj.length xc, .int .i64 0, .int .i64 0, .string rx, .slice ya 0 yc] 53)).alloc (by simp; omega) _).alloc (by simp; omega) _
                      have hYX := hb4.trans (hY4.mono hb4.size)
                      have hV : ((((w4.alloc (Obj.cells #[.int .i64 0, .int .i64 0, .string mk] 36)).alloc (Obj.cells #[.slice none 0 0, .slice xa fj.length xc, .int .i64 0, .int .i64 0, .string rx, .slice ya 0 yc] 53)).alloc (Obj.cells #[.int .i64 0, .int .i64 0, .string ⟨#[]⟩] 58)).alloc (Obj.cells (methCells mk (.slice xa fj.length xc) rx (.slice ya 0 yc) (w4.heap.size + 1 + 1)) 64)).heap[w4.heap.size + 1 + 1]? = some (Obj.cells #[.int .i64 0, .int .i64 0, .string ⟨#[]⟩] 58) := Keeps.alloc 58 _ _ _ _ (by have := heap_alloc_newD ((w4.alloc (Obj.cells #[.int .i64 0, .int .i64 0, .string mk] 36)).alloc (Obj.cells #[.slice none 0 0, .slice xa fj.length xc, .int .i64 0, .int .i64 0, .string rx, .slice ya 0 yc] 53)) (Obj.cells #[.int .i64 0, .int .i64 0, .string ⟨#[]⟩] 58); simpa using this)
                      have hM : ((((w4.alloc (Obj.cells #[.int .i64 0, .int .i64 0, .string mk] 36)).alloc (Obj.cells #[.slice none 0 0, .slice xa fj.length xc, .int .i64 0, .int .i64 0, .string rx, .slice ya 0 yc] 53)).alloc (Obj.cells #[.int .i64 0, .int .i64 0, .string ⟨#[]⟩] 58)).alloc (Obj.cells (methCells mk (.slice xa fj.length xc) rx (.slice ya 0 yc) (w4.heap.size + 1 + 1)) 64)).heap[w4.heap.size + 1 + 1 + 1]? = some (Obj.cells (methCells mk (.slice xa fj.length xc) rx (.slice ya 0 yc) (w4.heap.size + 1 + 1)) 64) := by have := heap_alloc_newD (((w4.alloc (Obj.cells #[.int .i64 0, .int .i64 0, .string mk] 36)).alloc (Obj.cells #[.slice none 0 0, .slice xa fj.length xc, .int .i64 0, .int .i64 0, .string rx, .slice ya 0 yc] 53)).alloc (Obj.cells #[.int .i64 0, .int .i64 0, .string ⟨#[]⟩] 58)) (Obj.cells (methCells mk (.slice xa fj.length xc) rx (.slice ya 0 yc) (w4.heap.size + 1 + 1)) 64); simpa using this
                      have HY : Hid (Mid S TN w ((((w4.alloc (Obj.cells #[.int .i64 0, .int .i64 0, .string mk] 36)).alloc (Obj.cells #[.slice none 0 0, .slice xa fj.length xc, .int .i64 0, .int .i64 0, .string rx, .slice ya 0 yc] 53)).alloc (Obj.cells #[.int .i64 0, .int .i64 0, .string ⟨#[]⟩] 58)).alloc (Obj.cells (methCells mk (.slice xa fj.length xc) rx (.slice ya 0 yc) (w4.heap.size + 1 + 1)) 64)) b0 b1 t0 t1 t2 n0 n1 n2 (nameOf i) (.slice pa np pc) (.slice f2a fl.length f2c) (psOf np b0 b1) (fsOf np fl) ∧ Decls (TN + 1 + 1 + 1) ((((w4.alloc (Obj.cells #[.int .i64 0, .int .i64 0, .string mk] 36)).alloc (Obj.cells #[.slice none 0 0, .slice xa fj.length xc, .int .i64 0, .int .i64 0, .string rx, .slice ya 0 yc] 53)).alloc (Obj.cells #[.int .i64 0, .int .i64 0, .string ⟨#[]⟩] 58)).alloc (Obj.cells (methCells mk (.slice xa fj.length xc) rx (.slice ya 0 yc) (w4.heap.size + 1 + 1)) 64)) u40 mj ∧ ((((w4.alloc (Obj.cells #[.int .i64 0, .int .i64 0, .string mk] 36)).alloc (Obj.cells #[.slice none 0 0, .slice xa fj.length xc, .int .i64 0, .int .i64 0, .string rx, .slice ya 0 yc] 53)).alloc (Obj.cells #[.int .i64 0, .int .i64 0, .string ⟨#[]⟩] 58)).alloc (Obj.cells (methCells mk (.slice xa fj.length xc) rx (.slice ya 0 yc) (w4.heap.size + 1 + 1)) 64)).ownsRow (TN + 1 + 1 + 1) 9 1 u41 j xj ∧ MethAt ((((w4.alloc (Obj.cells #[.int .i64 0, .int .i64 0, .string mk] 36)).alloc (Obj.cells #[.slice none 0 0, .slice xa fj.length xc, .int .i64 0, .int .i64 0, .string rx, .slice ya 0 yc] 53)).alloc (Obj.cells #[.int .i64 0, .int .i64 0, .string ⟨#[]⟩] 58)).alloc (Obj.cells (methCells mk (.slice xa fj.length xc) rx (.slice ya 0 yc) (w4.heap.size + 1 + 1)) 64)) (w4.heap.size + 1 + 1 + 1) mdj) :=
                        ⟨HMI.out.below hYX, HDC.out.keeps (fun _ _ => Keeps.below hYX), owns_below HTX.out hYX, HME.out _ _ _ _ _ hM hV (hfl4.below hY4) (hta4.below hY4)⟩
                      obtain ⟨Ms, hMs1, hMs2, hMs3⟩ := HY.out.2.1
                      have HMS1 : Hid (Ms.length = mj.length) := hMs1
                      have HMS2 : Hid (((((w4.alloc (Obj.cells #[.int .i64 0, .int .i64 0, .string mk] 36)).alloc (Obj.cells #[.slice none 0 0, .slice xa fj.length xc, .int .i64 0, .int .i64 0, .string rx, .slice ya 0 yc] 53)).alloc (Obj.cells #[.int .i64 0, .int .i64 0, .string ⟨#[]⟩] 58)).alloc (Obj.cells (methCells mk (.slice xa fj.length xc) rx (.slice ya 0 yc) (w4.heap.size + 1 + 1)) 64)).ownsRow (TN + 1 + 1 + 1) 56 1 u40 mj.length (Ms.map fun M => .pointer (some ⟨M, 0, none⟩))) := hMs2
                      have HMS3 : Hid (∀ q (h : q < Ms.length) (h' : q < mj.length), MethAt ((((w4.alloc (Obj.cells #[.int .i64 0, .int .i64 0, .string mk] 36)).alloc (Obj.cells #[.slice none 0 0, .slice xa fj.length xc, .int .i64 0, .int .i64 0, .string rx, .slice ya 0 yc] 53)).alloc (Obj.cells #[.int .i64 0, .int .i64 0, .string ⟨#[]⟩] 58)).alloc (Obj.cells (methCells mk (.slice xa fj.length xc) rx (.slice ya 0 yc) (w4.heap.size + 1 + 1)) 64)) Ms[q] mj[q]) := hMs3
                      have q3 : mj.length + 1 ≤ maxLen := by have := HLT.out; unfold maxLen; omega
                      have q4 : (mj.length + 1) * 8 ≤ 140737488355328 := by have := HLT.out; omega
                      have HT3 : Hid (TN + 1 + 1 + 1 ≤ ((((w4.alloc (Obj.cells #[.int .i64 0, .int .i64 0, .string mk] 36)).alloc (Obj.cells #[.slice none 0 0, .slice xa fj.length xc, .int .i64 0, .int .i64 0, .string rx, .slice ya 0 yc] 53)).alloc (Obj.cells #[.int .i64 0, .int .i64 0, .string ⟨#[]⟩] 58)).alloc (Obj.cells (methCells mk (.slice xa fj.length xc) rx (.slice ya 0 yc) (w4.heap.size + 1 + 1)) 64)).heap.size) := HY.out.1.lw.o3
                      have hT4 : TN + 1 + 1 + 1 ≤ w4.heap.size + 1 + 1 + 1 + 1 := by have := HT3.out; simpa using this
                      clear hMs1 hMs2 hMs3 hV hM hYX hY4 hfl4 hta4 hb4 HMI HDC HTX HME c0' c1' c2' a0 a1 a2 e0 e1 e2 hTl hNl
                      go_wp2_with (at_builtin; refine wpList_append_lies _ rfl _ _ 50 rfl (TN + 1 + 1 + 1) 56 i56 _ 1 8 Ybad.underlying50 hi56 hz56 hs56 hb56 rfl (by decide) _ mj.length _ rfl (HMS2.out.alloc _) _ 1 1 [.pointer (some ⟨w4.heap.size + 1 + 1 + 1, 0, none⟩)] rfl rfl ?c1 ?c2 (by decide) q3 q4 ?c5 _ rfl ?_)
                      case c1 =>
                        have hn := heap_alloc_newD ((((w4.alloc (Obj.cells #[.int .i64 0, .int .i64 0, .string mk] 36)).alloc (Obj.cells #[.slice none 0 0, .slice xa fj.length xc, .int .i64 0, .int .i64 0, .string rx, .slice ya 0 yc] 53)).alloc (Obj.cells #[.int .i64 0, .int .i64 0, .string ⟨#[]⟩] 58)).alloc (Obj.cells (methCells mk (.slice xa fj.length xc) rx (.slice ya 0 yc) (w4.heap.size + 1 + 1)) 64)) (Obj.cells #[.pointer (some ⟨w4.heap.size + 1 + 1 + 1, 0, none⟩)] 56)
                        exact World.news_of_block (cs := #[.pointer (some ⟨w4.heap.size + 1 + 1 + 1, 0, none⟩)]) (by simpa [methCells] using hn)
                      case c2 => intro u hu; simp at hu; subst hu; rfl
                      case c5 => simp; omega
                      intro g5 cap5 w5 hown5 hgrow5 hat5 hlt5
                      have hG5 := grewA HMS2.out hgrow5
                      have HM5 : Hid (Mid S TN w w5 b0 b1 t0 t1 t2 n0 n1 n2 (nameOf i) (.slice pa np pc) (.slice f2a fl.length f2c) (psOf np b0 b1) (fsOf np fl)) := HY.out.1.grown hG5 (fun t ht e => by subst e; simp at ht)
                      have HD5 : Hid (Decls (TN + 1 + 1 + 1) w5 _ (mj ++ [mdj])) := decls_snoc HMS1.out hown5 (fun q a b => (HMS3.out q a b).keeps (fun t ht => hG5.keeps t (fun e => by subst e; simp at ht))) (HY.out.2.2.2.keeps (fun t ht => hG5.keeps t (fun e => by subst e; simp at ht)))
                      have HX5 : Hid (w5.ownsRow (TN + 1 + 1 + 1) 9 1 u41 j xj) := owns_keeps HY.out.2.2.1 (hG5.keeps 9 (by decide))
                      have hT5 : TN + 1 + 1 + 1 ≤ w5.heap.size := HM5.out.lw.o3
                      have q5 : j + 1 ≤ maxLen := by unfold maxLen; omega
                      have q6 : (j + 1) * 16 ≤ 140737488355328 := by omega
                      have hs109 : (⟨#[109]⟩ : ByteArray).size = 1 := rfl
                      have hs45 : (⟨#[45]⟩ : ByteArray).size = 1 := rfl
                      have hs61 : (⟨#[61, 118, 48]⟩ : ByteArray).size = 3 := rfl
                      have z1 : (⟨#[109]⟩ ++ nj : ByteArray).size ≤ 22 := by rw [ByteArray.size_append]; omega
                      have z2 : (⟨#[109]⟩ ++ nj ++ ⟨#[45]⟩ : ByteArray).size ≤ 23 := by rw [ByteArray.size_append]; omega
                      have z3 : (⟨#[109]⟩ ++ nj ++ ⟨#[45]⟩ ++ sg : ByteArray).size ≤ 3000023 := by rw [ByteArray.size_append]; omega
                      clear HY HMS1 HMS2 HMS3 HT3 hT4 hown5 hgrow5 hat5 hG5 q3 q4
                      go_wp2_with (at_builtin; refine wpList_append_lies _ rfl _ _ 51 rfl (TN + 1 + 1 + 1) 9 i9 _ 1 16 Ybad.underlying51 hi9 hz9 hs9 hb9 rfl (by decide) _ j _ rfl (HX5.out.alloc _) _ 1 1 [.string (⟨#[109]⟩ ++ nj ++ ⟨#[45]⟩ ++ sg ++ ⟨#[61, 118, 48]⟩)] rfl rfl ?c1 ?c2 (by decide) q5 q6 ?c5 _ rfl ?_)
                      case c1 => exact World.news_of_block (cs := #[.string (⟨#[109]⟩ ++ nj ++ ⟨#[45]⟩ ++ sg ++ ⟨#[61, 118, 48]⟩)]) (heap_alloc_newD _ _)
                      case c2 => intro u hu; simp at hu; subst hu; rfl
                      case c5 => simp; omega
                      intro g6 cap6 w6 hown6 hgrow6 hat6 hlt6
                      have hG6 := grewA HX5.out hgrow6
                      have HM6 : Hid (Mid S TN w w6 b0 b1 t0 t1 t2 n0 n1 n2 (nameOf i) (.slice pa np pc) (.slice f2a fl.length f2c) (psOf np b0 b1) (fsOf np fl)) := HM5.out.grown hG6 (fun t ht e => by subst e; simp at ht)
                      have HD6 : Hid (Decls (TN + 1 + 1 + 1) w6 _ (mj ++ [mdj])) := HD5.out.keeps (fun t ht => hG6.keeps t (fun e => by subst e; simp at ht))
                      rw [← HTXE.out] at hown6
                      have HX6 : Hid (w6.ownsRow (TN + 1 + 1 + 1) 9 1 _ (j + 1) (xj ++ [.string tj])) := hown6
                      clear HM5 HD5 HX5 hown6 hgrow6 hat6 hG6
                      go_wp2_with fail
                      go_roundw
                      case rel => exact ⟨j + 1, by omega, by go_num, by rw [HFL.out]; exact HD6.out, by rw [HSN.out]; exact HX6.out, HM6.out⟩
                      case measure => simp [intOf]; omega
                    · obtain rfl : j = ml.length := by omega
                      have e1 : (ml.map fun m => mdOf 0 m).take ml.length = (ml.map fun m => mdOf 0 m) := List.take_of_length_le (by simp)
                      have e2 : (ml.map fun m => (mdOf 0 m).text t0 t1 t2 n0 n1 n2).take ml.length = (ml.map fun m => (mdOf 0 m).text t0 t1 t2 n0 n1 n2) := List.take_of_length_le (by simp)
                      have hlT : (ml.map fun m => (mdOf 0 m).text t0 t1 t2 n0 n1 n2).length = ml.length := by simp
                      have hlM : (ml.map fun m => mdOf 0 m).length = ml.length := by simp
                      rw [e1] at hdec
                      rw [e2] at htx
                      obtain ⟨da, dc, hdv, hjk⟩ := hdec.row
                      clear hjk
                      rw [hlM] at hdv
                      subst hdv
                      have hsc : Scope wr u41 (ml.map fun m => (mdOf 0 m).text t0 t1 t2 n0 n1 n2) := strs_row (T := TN + 1 + 1 + 1) (by rw [hlT]; exact htx)
                      obtain ⟨ta, tc, htv, hjk⟩ := id hsc
                      clear hjk
                      rw [hlT] at htv
                      subst htv
                      have HSRT : Hid (Calls Ybad.prog 9 _ wr _) := sort_any wr _ (ml.map fun m => (mdOf 0 m).text t0 t1 t2 n0 n1 n2) hsc (by rw [hlT]; omega)
                      have HMI : Hid (Mid S TN w wr b0 b1 t0 t1 t2 n0 n1 n2 (nameOf i) (.slice pa np pc) (.slice f2a fl.length f2c) (psOf np b0 b1) (fsOf np fl)) := hmi
                      have HDC : Hid (Decls (TN + 1 + 1 + 1) wr (.slice da ml.length dc) (ml.map fun m => mdOf 0 m)) := hdec
                      have HTX : Hid (wr.ownsRow (TN + 1 + 1 + 1) 9 1 (.slice ta ml.length tc) ml.length ((ml.map fun m => (mdOf 0 m).text t0 t1 t2 n0 n1 n2).map Value.string)) := htx
                      clear hmi hdec htx hsc e1 e2
                      go_wp2_with fail
                      refine HSRT.out.mono ?_
                      rintro e w6 ⟨rfl, hsc6, row, hrow, hrl, hg6⟩
                      have hrT : ∀ k, row = some k → TN + 1 + 1 + 1 ≤ k := fun k hk => by
                        obtain ⟨n', c', he⟩ := hrl k hk
                        exact (HTX.out.lt k (by rw [he]; rfl)).1
                      have hSB : S ≤ TN + 1 + 1 := HMI.out.lw.o1
                      have hb6 : Below S w w6 := HMI.out.lw.b.grown hg6 (by have := HMI.out.lw.o3; omega) (fun k hk => by have := hrT k hk; omega)
                      have HM6 : Hid (Mid S TN w w6 b0 b1 t0 t1 t2 n0 n1 n2 (nameOf i) (.slice pa np pc) (.slice f2a fl.length f2c) (psOf np b0 b1) (fsOf np fl)) := HMI.out.keeps (fun t ht => hrow.keeps hg6 t (fun e => by subst e; simp at ht)) hb6 hg6.size
                      have HD6 : Hid (Decls (TN + 1 + 1 + 1) w6 (.slice da ml.length dc) (ml.map fun m => mdOf 0 m)) := HDC.out.keeps (fun t ht => hrow.keeps hg6 t (fun e => by subst e; simp at ht))
                      have hsl : (sortB (ml.map fun m => (mdOf 0 m).text t0 t1 t2 n0 n1 n2)).length = ml.length := by rw [sortB_length, hlT]
                      have hsz : ∀ a ∈ sortB (ml.map fun m => (mdOf 0 m).text t0 t1 t2 n0 n1 n2), a.size ≤ 3100000 := fun a ha => by
                        have h := sortB_mem ha
                        rw [List.mem_map] at h
                        obtain ⟨m, hm, rfl⟩ := h
                        obtain ⟨z, hz, rfl⟩ := List.getElem_of_mem hm
                        exact MD.text_size f0 f1 f2 g0 g1 g2 _ (mdOf_good _ (HMA.out z hz))
                      have HWT : Hid (structText t0 t1 t2 n0 n1 n2 (psOf np b0 b1) (fsOf np fl) (ml.map fun m => mdOf 0 m) = acc2 ++ bars (sortB (ml.map fun m => (mdOf 0 m).text t0 t1 t2 n0 n1 n2))) := by
                        show _ = _
                        rw [← HAC2.out, ← HAC1.out, ← HSB.out, ← HSF.out]
                        unfold structText
                        rw [ps_names]
                        have x1 : (⟨#[83, 60]⟩ : ByteArray) = ⟨#[83]⟩ ++ ⟨#[60]⟩ := rfl
                        have x2 : (⟨#[62, 123]⟩ : ByteArray) = ⟨#[62]⟩ ++ ⟨#[123]⟩ := rfl
                        rw [x1, x2]
                        have y1 : (psOf np b0 b1).map (fun q => leaf t0 t1 t2 (scopeOf np) q.2) = ((List.range np).map fun j => leaf t0 t1 t2 (scopeOf np) (tyName (bnd b0 b1 j) np)) := by unfold psOf; rw [List.map_map]; rfl
                        have y2 : (fsOf np fl).map (fun q => tyText t0 t1 t2 (scopeOf np) q.1 q.2) = (fl.map fun q => drawn t0 t1 t2 q.1 np q.2) := by unfold fsOf; rw [List.map_map]; rfl
                        have y3 : (ml.map fun m => mdOf 0 m).map (fun m => m.text t0 t1 t2 n0 n1 n2) = (ml.map fun m => (mdOf 0 m).text t0 t1 t2 n0 n1 n2) := by rw [List.map_map]; rfl
                        rw [y1, y2, y3]
                        simp [ByteArray.append_assoc]
                      have HSC : Hid (Scope w6 (.slice ta ml.length tc) (sortB (ml.map fun m => (mdOf 0 m).text t0 t1 t2 n0 n1 n2))) := hsc6
                      clear HSRT HMI HDC HTX hsc6 hrow hrl hg6 hrT hb6 hlT hlM
                      generalize sortB (ml.map fun m => (mdOf 0 m).text t0 t1 t2 n0 n1 n2) = sl at *
                      go_wp2_with fail
                      go_loopw [32, 209] (fun tx x wr => ∃ j : Nat, j ≤ ml.length ∧ x = .int .i64 j ∧ tx = .string (acc2 ++ bars (sl.take j)) ∧ wr = w6) (fun _ x _ => ml.length - (intOf x).toNat)
                      case atStart => exact ⟨0, Nat.zero_le _, rfl, by simp [bars], rfl⟩
                      case round =>
                        obtain ⟨j, hj, rfl, rfl, rfl⟩ := hrel
                        have hbz := bars_size sl 3100000 hsz j
                        have hasq : (acc2 ++ bars (sl.take j)).size ≤ 2000000000 := by rw [ByteArray.size_append]; omega
                        by_cases hlt : j < ml.length
                        · obtain ⟨a', c', he, hrows⟩ := id HSC.out
                          simp only [Value.slice.injEq] at he
                          obtain ⟨rfl, hcyc, rfl⟩ := he
                          clear hcyc
                          obtain ⟨g, gcur, rfl, hgr, hcur⟩ := hrows (by omega)
                          have cj := cell_row (j := j) hgr (hcur j (by omega))
                          have hjz := hsz _ (List.getElem_mem (show j < sl.length by omega))
                          have HSN : Hid (bars (sl.take (j + 1)) = bars (sl.take j) ++ (⟨#[124]⟩ ++ sl[j])) := by
                            show _ = _
                            rw [List.take_succ_eq_append_getElem (by omega), bars_snoc]
                          clear hgr hcur hrows
                          generalize sl[j] = sj at *
                          have hs124 : (⟨#[124]⟩ : ByteArray).size = 1 := rfl
                          have hsum : (⟨#[124]⟩ ++ sj).size ≤ 3100001 := by rw [ByteArray.size_append]; omega
                          go_wp2_with fail
                          go_roundw
                          case rel => exact ⟨j + 1, by omega, by go_num, by rw [HSN.out]; simp [ByteArray.append_assoc], by first | trivial | rfl⟩
                          case measure => simp [intOf]; omega
                        · obtain rfl : j = ml.length := by omega
                          have e3 : sl.take ml.length = sl := List.take_of_length_le (by omega)
                          rw [e3] at hasq
                          rw [e3]
                          clear e3 hbz HSC
                          generalize hac : acc2 ++ bars sl = acc3 at *
                          clear hac
                          obtain ⟨i103, hi103, hz103, hs103, hb103⟩ := info_parts info103
                          obtain ⟨i50, hi50, hz50, hs50, hb50⟩ := info_parts info50
                          have hbo := (Below.refl _ wr).alloc (Nat.le_refl _) (Obj.cells #[.string ⟨#[]⟩, .int .i64 0, .int .i64 0, .slice none 0 0, .slice none 0 0, .pointer none] 70)
                          have HM7 : Hid (Mid S TN w _ b0 b1 t0 t1 t2 n0 n1 n2 (nameOf i) (.slice pa np pc) (.slice f2a fl.length f2c) (psOf np b0 b1) (fsOf np fl)) := HM6.out.below hbo
                          have HD7 : Hid (Decls (TN + 1 + 1 + 1) _ (.slice da ml.length dc) (ml.map fun m => mdOf 0 m)) := HD6.out.keeps (fun _ _ => Keeps.below hbo)
                          have HF7 : Hid ((wr.alloc (Obj.cells #[.string ⟨#[]⟩, .int .i64 0, .int .i64 0, .slice none 0 0, .slice none 0 0, .pointer none] 70)).heap[wr.heap.size]? = some (Obj.cells #[.string ⟨#[]⟩, .int .i64 0, .int .i64 0, .slice none 0 0, .slice none 0 0, .pointer none] 70)) := heap_alloc_newD _ _
                          have HZ7 : Hid ((wr.alloc (Obj.cells #[.string ⟨#[]⟩, .int .i64 0, .int .i64 0, .slice none 0 0, .slice none 0 0, .pointer none] 70)).heap.size = wr.heap.size + 1) := by show _ = _; simp
                          have hDF : TN + 1 + 1 + 1 ≤ wr.heap.size := HM6.out.lw.o3
                          clear HM6 HD6 hbo
                          go_wp2_with fail
                          generalize wr.alloc (Obj.cells #[.string ⟨#[]⟩, .int .i64 0, .int .i64 0, .slice none 0 0, .slice none 0 0, .pointer none] 70) = W7 at *
                          generalize wr.heap.size = F at *
                          go_loopw [51] (fun x wr => ∃ k : Nat, k ≤ 3 ∧ x = .int .i64 k ∧ ∃ tv xs, xs.length = k ∧ wr.ownsRow (F + 1) 103 1 tv k xs ∧ (i < k → xs[i]? = some (.iface 31 (.pointer (some ⟨TN + 1 + 1, 0, none⟩)))) ∧ wr.heap[F]? = some (.cells #[.string ⟨#[]⟩, .int .i64 0, .int .i64 0, tv, .slice none 0 0, .pointer none] 70 (0, 0)) ∧ Mid S TN w wr b0 b1 t0 t1 t2 n0 n1 n2 (nameOf i) (.slice pa np pc) (.slice f2a fl.length f2c) (psOf np b0 b1) (fsOf np fl) ∧ Decls (TN + 1 + 1 + 1) wr (.slice da ml.length dc) (ml.map fun m => mdOf 0 m)) (fun x _ => 3 - (intOf x).toNat)
                          case atStart => exact ⟨0, by omega, rfl, _, [], rfl, World.ownsRow_nil _ _ _ _, fun h => absurd h (Nat.not_lt_zero _), HF7.out, HM7.out, HD7.out⟩
                          case round =>
                            obtain ⟨k, hk3, rfl, tv, xs, hxl, hown, hxi, hfr, hmi, hdc⟩ := hrel
                            clear HM7 HD7 HF7 HZ7
                            have hFl : F < wr.heap.size := (Array.getElem?_eq_some_iff.1 hfr).1
                            have x3 := cell_row (j := 3) hfr rfl
                            have xf : ∀ j, wr.frozen? ⟨F, j, none⟩ = false := fun j => by simp [World.frozen?, hfr]
                            by_cases hlt : k < 3
                            · have HOW : Hid (wr.ownsRow (F + 1) 103 1 tv k xs) := hown
                              have HFR : Hid (wr.heap[F]? = some (.cells #[.string ⟨#[]⟩, .int .i64 0, .int .i64 0, tv, .slice none 0 0, .pointer none] 70 (0, 0))) := hfr
                              have HMI : Hid (Mid S TN w wr b0 b1 t0 t1 t2 n0 n1 n2 (nameOf i) (.slice pa np pc) (.slice f2a fl.length f2c) (psOf np b0 b1) (fsOf np fl)) := hmi
                              have HDC : Hid (Decls (TN + 1 + 1 + 1) wr (.slice da ml.length dc) (ml.map fun m => mdOf 0 m)) := hdc
                              have k3 : (k : Int) < 3 := by omega
                              clear hown hfr hmi hdc
                              by_cases hki : k = i
                              · obtain rfl : i = k := hki.symm
                                have q3 : i + 1 ≤ maxLen := by unfold maxLen; omega
                                have q4 : (i + 1) * 16 ≤ 140737488355328 := by omega
                                have hxa : i < i + 1 → (xs ++ [.iface 31 (.pointer (some ⟨TN + 1 + 1, 0, none⟩))])[i]? = some (.iface 31 (.pointer (some ⟨TN + 1 + 1, 0, none⟩))) := fun _ => by
                                  rw [List.getElem?_append_right (by omega), show i - xs.length = 0 by omega]
                                  rfl
                                have HXA : Hid (i < i + 1 → (xs ++ [.iface 31 (.pointer (some ⟨TN + 1 + 1, 0, none⟩))])[i]? = some (.iface 31 (.pointer (some ⟨TN + 1 + 1, 0, none⟩)))) := hxa
                                clear hxa
                                go_wp2_with (at_builtin; refine wpList_append_lies _ rfl (.tmp 231) (.tmp 234) 67 rfl (F + 1) 103 i103 _ 1 16 Ybad.underlying67 hi103 hz103 hs103 hb103 rfl (by decide) _ i _ rfl (HOW.out.alloc _) _ 1 1 [.iface 31 (.pointer (some ⟨TN + 1 + 1, 0, none⟩))] rfl rfl ?c1 ?c2 (by decide) q3 q4 ?c5 _ rfl ?_)
                                case c2 => first | (intro u hu; simp at hu; subst hu; rfl) | rfl | simp [Value.oneCell']
                                case c5 => first | omega | (simp; omega)
                                intro g5 cap5 w5 hown5 hgrow5 hat5 hlt5
                                have hG := grew (i := 3) HOW.out HFR.out (Nat.lt_succ_self _) hFl hgrow5 hown5
                                have hd5 := far_row HOW.out HFR.out (Nat.lt_succ_self _) hFl hgrow5
                                have d35 := cell_row (j := 3) hd5 rfl
                                have df5 : ∀ j, w5.frozen? ⟨F, j, none⟩ = false := fun j => by simp [World.frozen?, hd5]
                                have hSF : S ≤ F := by have := HMI.out.lw.o1; omega
                                have HN : Hid (∃ tv xs, xs.length = (i + 1) ∧ (w5.setCell ⟨F, 3, none⟩ (.slice (some ⟨g5, 0, none⟩) (i + 1) cap5)).ownsRow (F + 1) 103 1 tv (i + 1) xs ∧ (i < (i + 1) → xs[i]? = some (.iface 31 (.pointer (some ⟨TN + 1 + 1, 0, none⟩)))) ∧ (w5.setCell ⟨F, 3, none⟩ (.slice (some ⟨g5, 0, none⟩) (i + 1) cap5)).heap[F]? = some (.cells #[.string ⟨#[]⟩, .int .i64 0, .int .i64 0, tv, .slice none 0 0, .pointer none] 70 (0, 0)) ∧ Mid S TN w (w5.setCell ⟨F, 3, none⟩ (.slice (some ⟨g5, 0, none⟩) (i + 1) cap5)) b0 b1 t0 t1 t2 n0 n1 n2 (nameOf i) (.slice pa np pc) (.slice f2a fl.length f2c) (psOf np b0 b1) (fsOf np fl) ∧ Decls (TN + 1 + 1 + 1) (w5.setCell ⟨F, 3, none⟩ (.slice (some ⟨g5, 0, none⟩) (i + 1) cap5)) (.slice da ml.length dc) (ml.map fun m => mdOf 0 m)) := ⟨_, _, by simp [hxl], hG.own, HXA.out, by rw [hG.d]; rfl, HMI.out.keeps (fun t ht => hG.keeps t (fun e => by subst e; simp at ht) (fun e => by subst e; simp at ht)) (hG.bel S w hSF (by omega) HMI.out.lw.b) hG.size, HDC.out.keeps (fun t ht => hG.keeps t (fun e => by subst e; simp at ht) (fun e => by subst e; simp at ht))⟩
                                clear hG hown5 hgrow5 hat5 HMI HDC HOW HFR hd5
                                go_wp2_with fail
                                go_roundw
                                case rel => exact ⟨i + 1, by omega, by go_num, HN.out⟩
                                case measure => simp [intOf]; omega
                              · have hki' : ¬ ((k : Int) = (i : Int)) := by omega
                                have hki'' : ¬ ((i : Int) = (k : Int)) := by omega
                                have hxa : i < k + 1 → (xs ++ [.iface 31 (.pointer (some ⟨wr.heap.size, 0, none⟩))])[i]? = some (.iface 31 (.pointer (some ⟨TN + 1 + 1, 0, none⟩))) := fun h => by
                                  rw [List.getElem?_append_left (by omega)]
                                  exact hxi (by omega)
                                have HXA : Hid (i < k + 1 → (xs ++ [.iface 31 (.pointer (some ⟨wr.heap.size, 0, none⟩))])[i]? = some (.iface 31 (.pointer (some ⟨TN + 1 + 1, 0, none⟩)))) := hxa
                                have hSF : S ≤ F := by have := HMI.out.lw.o1; omega
                                have hbo := (Below.refl _ wr).alloc (Nat.le_refl _) (Obj.cells #[.int .i64 0, .int .i64 0, .string (nameOf k), .slice none 0 0, .slice none 0 0] 40)
                                have HO4 : Hid ((wr.alloc (Obj.cells #[.int .i64 0, .int .i64 0, .string (nameOf k), .slice none 0 0, .slice none 0 0] 40)).ownsRow (F + 1) 103 1 tv k xs) := HOW.out.alloc _
                                have HF4 : Hid ((wr.alloc (Obj.cells #[.int .i64 0, .int .i64 0, .string (nameOf k), .slice none 0 0, .slice none 0 0] 40)).heap[F]? = some (.cells #[.string ⟨#[]⟩, .int .i64 0, .int .i64 0, tv, .slice none 0 0, .pointer none] 70 (0, 0))) := Keeps.below hbo _ _ HFR.out
                                have HM4 : Hid (Mid S TN w (wr.alloc (Obj.cells #[.int .i64 0, .int .i64 0, .string (nameOf k), .slice none 0 0, .slice none 0 0] 40)) b0 b1 t0 t1 t2 n0 n1 n2 (nameOf i) (.slice pa np pc) (.slice f2a fl.length f2c) (psOf np b0 b1) (fsOf np fl)) := HMI.out.below hbo
                                have HD4 : Hid (Decls (TN + 1 + 1 + 1) (wr.alloc (Obj.cells #[.int .i64 0, .int .i64 0, .string (nameOf k), .slice none 0 0, .slice none 0 0] 40)) (.slice da ml.length dc) (ml.map fun m => mdOf 0 m)) := HDC.out.keeps (fun _ _ => Keeps.below hbo)
                                have hZ4 : (wr.alloc (Obj.cells #[.int .i64 0, .int .i64 0, .string (nameOf k), .slice none 0 0, .slice none 0 0] 40)).heap.size = wr.heap.size + 1 := by simp
                                have HZ4 : Hid ((wr.alloc (Obj.cells #[.int .i64 0, .int .i64 0, .string (nameOf k), .slice none 0 0, .slice none 0 0] 40)).heap.size = wr.heap.size + 1) := hZ4
                                clear hxa hbo hZ4 HMI HDC HOW HFR
                                go_wp2_with fail
                                go_region_law (first | (refine step_append_lies _ (by rfl) (.tmp 242) (.tmp 249) 67 (by rfl) (F + 1) 103 i103 _ 1 16 Ybad.underlying67 hi103 hz103 hs103 hb103 (by rfl) (by decide) tv k xs (by rfl) (by exact HO4.out.alloc _) _ 1 1 [.iface 31 (.pointer (some ⟨wr.heap.size, 0, none⟩))] (by rfl) (by rfl) (by exact World.news_of_block (cs := #[.iface 31 (.pointer (some ⟨wr.heap.size, 0, none⟩))]) (two_rows wr _ _).2) (by intro u hu; simp at hu; subst hu; rfl) (by decide) (by unfold maxLen; omega) (by omega) (by simp; omega) _ rfl ?_; intro g5 cap5 w2 hown5 hgrow5 hat5 hlt5; have hgr : ((wr.alloc (Obj.cells #[.int .i64 0, .int .i64 0, .string (nameOf k), .slice none 0 0, .slice none 0 0] 40)).alloc (.cells #[.iface 31 (.pointer (some ⟨wr.heap.size, 0, none⟩))] 103)).grownBy w2 tv.ownBlock := ⟨hgrow5.os, hgrow5.tape, hgrow5.output, hgrow5.size, hgrow5.block⟩; have hG := grew (i := 3) HO4.out HF4.out (Nat.lt_succ_self _) (by rw [HZ4.out]; omega) hgr hown5; have hd5 := far_row HO4.out HF4.out (Nat.lt_succ_self _) (by rw [HZ4.out]; omega) hgr; have d35 := cell_row (j := 3) hd5 rfl; have df5 : ∀ j, w2.frozen? ⟨F, j, none⟩ = false := fun j => (by simp [World.frozen?, hd5])) | (go_simp; go_at_call 5; refine (name_any k hlt _).mono ?_; rintro e w1' ⟨rfl, rfl⟩))
                                all_goals
                                  have HN : Hid (∃ tv xs, xs.length = (k + 1) ∧ (w2.setCell ⟨F, 3, none⟩ (.slice (some ⟨g5, 0, none⟩) (k + 1) cap5)).ownsRow (F + 1) 103 1 tv (k + 1) xs ∧ (i < (k + 1) → xs[i]? = some (.iface 31 (.pointer (some ⟨TN + 1 + 1, 0, none⟩)))) ∧ (w2.setCell ⟨F, 3, none⟩ (.slice (some ⟨g5, 0, none⟩) (k + 1) cap5)).heap[F]? = some (.cells #[.string ⟨#[]⟩, .int .i64 0, .int .i64 0, tv, .slice none 0 0, .pointer none] 70 (0, 0)) ∧ Mid S TN w (w2.setCell ⟨F, 3, none⟩ (.slice (some ⟨g5, 0, none⟩) (k + 1) cap5)) b0 b1 t0 t1 t2 n0 n1 n2 (nameOf i) (.slice pa np pc) (.slice f2a fl.length f2c) (psOf np b0 b1) (fsOf np fl) ∧ Decls (TN + 1 + 1 + 1) (w2.setCell ⟨F, 3, none⟩ (.slice (some ⟨g5, 0, none⟩) (k + 1) cap5)) (.slice da ml.length dc) (ml.map fun m => mdOf 0 m)) := ⟨_, _, by simp [hxl], hG.own, HXA.out, by rw [hG.d]; rfl, HM4.out.keeps (fun t ht => hG.keeps t (fun e => by subst e; simp at ht) (fun e => by subst e; simp at ht)) (hG.bel S w hSF (by omega) HM4.out.lw.b) hG.size, HD4.out.keeps (fun t ht => hG.keeps t (fun e => by subst e; simp at ht) (fun e => by subst e; simp at ht))⟩
                                  clear hG hown5 hgrow5 hat5 hgr hd5 HO4 HF4 HM4 HD4
                                  go_wp2_with fail
                                  go_roundw
                                  case rel => exact ⟨k + 1, by omega, by go_num, HN.out⟩
                                  case measure => simp [intOf]; omega
                            · obtain rfl : k = 3 := by omega
                              obtain ⟨TR, tc3, htvv, _, hTRl⟩ := hown.form (by omega)
                              subst htvv
                              have hxi3 := hxi hi
                              obtain ⟨_, ⟨hno, _⟩ | ⟨g', cap', cur, hv', _, hgr, _, _, _, htk⟩⟩ := hown
                              · simp at hno
                              simp only [Value.slice.injEq, Option.some.injEq, Addr.mk.injEq, and_true, true_and] at hv'
                              obtain ⟨rfl, rfl⟩ := hv'
                              have hcur := take_cell htk hxi3
                              have hmk := fun w => run_make (P := Ybad.prog) w 71 50 i50 _ Ybad.underlying71 hi50 hz50 .i64 .i64 3 3 (by omega) (by omega) (by rw [hb50]; omega) (by omega)
                              rw [hs50] at hmk
                              generalize hZ : madeCells (Value.slice none 0 0).cells ((3 : Int).toNat * 1) = Z at hmk
                              have hZs : Z.size = 3 := by rw [← hZ, size_madeCells]; rfl
                              have zi : ∃ v, Z[i]? = some v := ⟨Z[i], Array.getElem?_eq_getElem (by omega)⟩
                              obtain ⟨zv, hzv⟩ := zi
                              have j0 : (0 : Int) ≤ (i : Int) := by omega
                              have j1 : (i : Int) < 3 := by omega
                              have HRT : Hid (wr.heap[TR]? = some (.cells cur 103 (0, 0))) := hgr
                              have HFR : Hid (wr.heap[F]? = some (.cells #[.string ⟨#[]⟩, .int .i64 0, .int .i64 0, (.slice (some ⟨TR, 0, none⟩) 3 tc3), .slice none 0 0, .pointer none] 70 (0, 0))) := hfr
                              have HMI : Hid (Mid S TN w wr b0 b1 t0 t1 t2 n0 n1 n2 (nameOf i) (.slice pa np pc) (.slice f2a fl.length f2c) (psOf np b0 b1) (fsOf np fl)) := hmi
                              have HDC : Hid (Decls (TN + 1 + 1 + 1) wr (.slice da ml.length dc) (ml.map fun m => mdOf 0 m)) := hdc
                              clear hgr hfr hmi hdc hxi hxi3 htk x3 xf hZ
                              go_wp2_with fail
                              have hbo := (Below.refl _ wr).alloc (Nat.le_refl _) (Obj.cells (Z.setIfInBounds i (.slice da ml.length dc)) 50)
                              have hMS := heap_alloc_newD wr (Obj.cells (Z.setIfInBounds i (.slice da ml.length dc)) 50)
                              refine (num_any t0 t1 t2 n0 n1 n2 F (some ⟨wr.heap.size, 0, none⟩) 3 3 _).mono ?_
                              rintro e w8 ⟨rfl, hN8, hb8⟩
                              have hpF : (numBlk (wr.alloc (Obj.cells (Z.setIfInBounds i (.slice da ml.length dc)) 50)).heap.size F).F = F := rfl
                              generalize numBlk (wr.alloc (Obj.cells (Z.setIfInBounds i (.slice da ml.length dc)) 50)).heap.size F = p at *
                              have hb8' : Below wr.heap.size wr w8 := hbo.trans (hb8.mono hbo.size)
                              have hbp := (Below.refl _ w8).alloc (Nat.le_refl _) (Obj.cells #[.pointer (some ⟨p.sh, 0, none⟩), .slice (some ⟨p.tb, 0, none⟩) 3 3, .slice (some ⟨p.nb, 0, none⟩) 3 3] 75)
                              have hb9 := hb8'.trans (hbp.mono hb8'.size)
                              have hMS8 := Keeps.below hbp _ _ (Keeps.below hb8 _ _ hMS)
                              have hmi9 := HMI.out.below hb9
                              have hN9 := hN8.below hbp
                              have hd9 : DeclSt (w8.alloc (Obj.cells #[.pointer (some ⟨p.sh, 0, none⟩), .slice (some ⟨p.tb, 0, none⟩) 3 3, .slice (some ⟨p.nb, 0, none⟩) 3 3] 75)) p.F TR (TN + 1 + 1) wr.heap.size i tc3 (nameOf i) (.slice pa np pc) (.slice f2a fl.length f2c) (.slice da ml.length dc) (psOf np b0 b1) (fsOf np fl) (ml.map fun m => mdOf 0 m) :=
                                ⟨by rw [hpF]; exact Keeps.below hb9 _ _ HFR.out, ⟨cur, Keeps.below hb9 _ _ HRT.out, hcur⟩, hmi9.lw.d, hmi9.pr, hmi9.fl, ⟨_, hMS8, by rw [Array.getElem?_setIfInBounds, if_pos rfl, if_pos (by omega)]⟩, HDC.out.row.keeps (fun _ _ => Keeps.below hb9)⟩
                              have hS9 : S ≤ (w8.alloc (Obj.cells #[.pointer (some ⟨p.sh, 0, none⟩), .slice (some ⟨p.tb, 0, none⟩) 3 3, .slice (some ⟨p.nb, 0, none⟩) 3 3] 75)).heap.size := by have := hmi9.lw.b.size; omega
                              have htd := td_struct L (w8.alloc (Obj.cells #[.pointer (some ⟨p.sh, 0, none⟩), .slice (some ⟨p.tb, 0, none⟩) 3 3, .slice (some ⟨p.nb, 0, none⟩) 3 3] 75)) p t0 t1 t2 n0 n1 n2 TR (TN + 1 + 1) wr.heap.size i tc3 (nameOf i) _ _ _ (psOf np b0 b1) (fsOf np fl) (ml.map fun m => mdOf 0 m) hi hN9 (HTAB.out.below hmi9.lw.b hL) (by omega) f0 f1 f2 g0 g1 g2 hd9 (by rw [HPL.out]; omega) (fun q hq => by
                                rw [ps_names]
                                unfold psOf at hq
                                rw [List.mem_map] at hq
                                obtain ⟨a, _, rfl⟩ := hq
                                exact tyName_ok _ _ hn) (fun q hq => by
                                rw [ps_names]
                                unfold fsOf at hq
                                rw [List.mem_map] at hq
                                obtain ⟨a, ha, rfl⟩ := hq
                                obtain ⟨z, hz, rfl⟩ := List.getElem_of_mem ha
                                exact drawn_good _ _ _ hn (HFA.out z hz)) (by rw [HFSL.out]; omega) (fun m hm => by
                                rw [List.mem_map] at hm
                                obtain ⟨a, ha, rfl⟩ := hm
                                obtain ⟨z, hz, rfl⟩ := List.getElem_of_mem ha
                                exact mdOf_good _ (HMA.out z hz)) (by simp; omega)
                              rw [HWT.out] at htd
                              have HTD : Hid (Calls Ybad.prog 11 _ (w8.alloc (Obj.cells #[.pointer (some ⟨p.sh, 0, none⟩), .slice (some ⟨p.tb, 0, none⟩) 3 3, .slice (some ⟨p.nb, 0, none⟩) 3 3] 75)) _) := htd
                              have HB9 : Hid (Below S w (w8.alloc (Obj.cells #[.pointer (some ⟨p.sh, 0, none⟩), .slice (some ⟨p.tb, 0, none⟩) 3 3, .slice (some ⟨p.nb, 0, none⟩) 3 3] 75)) ∧ S ≤ (w8.alloc (Obj.cells #[.pointer (some ⟨p.sh, 0, none⟩), .slice (some ⟨p.tb, 0, none⟩) 3 3, .slice (some ⟨p.nb, 0, none⟩) 3 3] 75)).heap.size) := ⟨hmi9.lw.b, hS9⟩
                              unfold NBlk.val at HTD ⊢
                              clear htd hd9 hN9 hmi9 hMS8 hb9 hbp hb8' hpF hN8 hb8 hMS hbo HMI HDC HRT HFR hcur hmk
                              go_wp2_with fail
                              refine HTD.out.mono ?_
                              rintro e w9 ⟨rfl, hb10⟩
                              have HBF : Hid (Below S w w9) := HB9.out.1.trans (hb10.mono HB9.out.2)
                              clear HTD HB9 hb10
                              go_wp2_with fail
                              go_ret
                              exact ⟨rfl, by rw [hS]; exact HBF.out⟩
end Go.Proofs.YbulkbmowDoor
