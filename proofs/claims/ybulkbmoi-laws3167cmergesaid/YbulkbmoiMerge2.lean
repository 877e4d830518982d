/-
  mergeSums, walked.
-/
import Derived.Test.YbulkbmoiMerge
namespace Go.Proofs.Ybulkbmoi
open Go.RowKit Go

theorem getD_last (l : List St) (x : St) (k : Nat) (h : l.length = k) : (l ++ [x]).getD k dSt = x := by subst h; simp [List.getD]

theorem row_cells {T n M Hh Hl i : Nat} {w : World} {CS : List Nat} {cv : Value} {ss : List St} (h : MS T w n M Hh Hl CS cv ss) (hi : i < n) :
    (∃ v, w.cell? ⟨Hh, i * 3, none⟩ = some v) ∧ (∃ v, w.cell? ⟨Hh, i * 3 + 1, none⟩ = some v) ∧ (∃ v, w.cell? ⟨Hh, i * 3 + 2, none⟩ = some v) ∧ (∃ v, w.cell? ⟨Hl, i, none⟩ = some v) ∧ (∀ j, w.frozen? ⟨Hh, j, none⟩ = false) ∧ (∀ j, w.frozen? ⟨Hl, j, none⟩ = false) := by
  obtain ⟨hcur, hh1, hh2, hh3⟩ := h.heads
  obtain ⟨lcur, hl1, hl2, hl3⟩ := h.live
  refine ⟨⟨hcur[i * 3], ?_⟩, ⟨hcur[i * 3 + 1], ?_⟩, ⟨hcur[i * 3 + 2], ?_⟩, ⟨lcur[i], ?_⟩, fun j => frozen_of_row w Hh j hcur 41 hh1, fun j => frozen_of_row w Hl j lcur 4 hl1⟩
  · rw [cell_of_row w Hh _ hcur 41 (0, 0) hh1, Array.getElem?_eq_getElem (by omega)]
  · rw [cell_of_row w Hh _ hcur 41 (0, 0) hh1, Array.getElem?_eq_getElem (by omega)]
  · rw [cell_of_row w Hh _ hcur 41 (0, 0) hh1, Array.getElem?_eq_getElem (by omega)]
  · rw [cell_of_row w Hl _ lcur 4 (0, 0) hl1, Array.getElem?_eq_getElem (by omega)]

/-- Behind a cursor's next the merger's own cells read as they did. -/
theorem m6 {T n M Hh Hl i g5 c5 k5 : Nat} {wc w1 : World} {CS : List Nat} {ss : List St} (h : MS T wc n M Hh Hl CS (.slice (some ⟨g5, 0, none⟩) k5 c5) ss) (hi : i < CS.length) (hg : wc.grownBy w1 (some (CS.getD i 0))) :
    (∀ j, w1.cell? ⟨M, j, none⟩ = wc.cell? ⟨M, j, none⟩) ∧ (∀ j, w1.cell? ⟨g5, j, none⟩ = wc.cell? ⟨g5, j, none⟩) ∧ (∀ j, w1.cell? ⟨Hh, j, none⟩ = wc.cell? ⟨Hh, j, none⟩) ∧ (∀ j, w1.cell? ⟨Hl, j, none⟩ = wc.cell? ⟨Hl, j, none⟩) ∧ (∀ j, w1.frozen? ⟨Hh, j, none⟩ = wc.frozen? ⟨Hh, j, none⟩) ∧ (∀ j, w1.frozen? ⟨Hl, j, none⟩ = wc.frozen? ⟨Hl, j, none⟩) := by
  have hA := h.apart
  have hCi := hA.cs i hi
  have hM : M < wc.heap.size := (Array.getElem?_eq_some_iff.1 h.m).1
  have hHh : Hh < wc.heap.size := by obtain ⟨c, h, _⟩ := h.heads; exact (Array.getElem?_eq_some_iff.1 h).1
  have hHl : Hl < wc.heap.size := by obtain ⟨c, h, _⟩ := h.live; exact (Array.getElem?_eq_some_iff.1 h).1
  have e1 := hg.block M hM (by simp; exact fun e => hCi.2.2.1 e.symm)
  have e2 := hg.block g5 (h.own.lt g5 rfl).2 (by simp; exact (hA.own g5 rfl).2.2.2 i hi)
  have e3 := hg.block Hh hHh (by simp; exact fun e => hCi.2.2.2.1 e.symm)
  have e4 := hg.block Hl hHl (by simp; exact fun e => hCi.2.2.2.2 e.symm)
  exact ⟨fun _ => World.cell?_of_block (w := wc) e1, fun _ => World.cell?_of_block (w := wc) e2, fun _ => World.cell?_of_block (w := wc) e3, fun _ => World.cell?_of_block (w := wc) e4, fun _ => World.frozen?_of_block (w := wc) e3, fun _ => World.frozen?_of_block (w := wc) e4⟩

set_option maxHeartbeats 1000000 in
theorem merge_any (S : Nat) (ps : List (List Ent)) (w : World) (hn : ps.length ≤ 64) (hl : ∀ p ∈ ps, p.length ≤ 256) (hok : ∀ p ∈ ps, ∀ e ∈ p, e.ok) (ho : Outer S w ps ps.length) :
    Calls Yba.prog 7 #[.slice (some ⟨S, 0, none⟩) ps.length ps.length] w fun e w' => ∃ M Hh Hl CS cv, e = .returned (ptr M) ∧ MS w.heap.size w' ps.length M Hh Hl CS cv (ps.map (advance 0)) ∧ CS.length = ps.length ∧ Below w.heap.size w w' := by
  obtain ⟨i41, hi41, hz41, hs41, hb41⟩ := info_parts info41
  obtain ⟨i4, hi4, hz4, hs4, hb4⟩ := info_parts info4
  obtain ⟨i35, hi35, hz35, hs35, hb35⟩ := info_parts info35
  obtain ⟨PS, WV, hPS, hWV, hs1, hs2, hpt⟩ := ho
  generalize hnn : ps.length = n at *
  have hmk1 := fun w => run_make (P := Yba.prog) w 31 41 i41 _ Yba.underlying31 hi41 hz41 .i64 .i64 (n : Int) (n : Int) (by omega) (by omega) (by rw [hb41]; omega) (by omega)
  have hmk2 := fun w => run_make (P := Yba.prog) w 32 4 i4 _ Yba.underlying32 hi4 hz4 .i64 .i64 (n : Int) (n : Int) (by omega) (by omega) (by rw [hb4]; omega) (by omega)
  rw [hs41, Int.toNat_natCast] at hmk1
  rw [hs4, Int.toNat_natCast] at hmk2
  generalize hZ1 : madeCells (Value.agg #[Value.int IntKind.i64 0, Value.bool false, Value.int IntKind.u32 0]).cells (n * 3) = Z1 at hmk1
  generalize hZ2 : madeCells (Value.bool false).cells (n * 1) = Z2 at hmk2
  have HZ1 : Hid (Z1.size = n * 3) := by show _ = _; rw [← hZ1, size_madeCells]
  have HZ2 : Hid (Z2.size = n) := by show _ = _; rw [← hZ2, size_madeCells, Nat.mul_one]
  have HN : Hid (ps.length = n) := hnn
  clear hZ1 hZ2 hnn
  go_enter Yba.func7, Yba.ntmps7
  go_wp2_with fail
  go_cut [3] (fun m wc => ∃ M Hh Hl, m = ptr M ∧ Start w.heap.size w wc n Z1 Z2 M Hh Hl)
  case first =>
    go_region
    all_goals go_wp2_with fail
    all_goals go_meet
    case rel => exact ⟨_, _, _, rfl, start_a w n Z1 Z2 1⟩
    case rel => exact ⟨_, _, _, rfl, start_b w n Z1 Z2 1⟩
  case rest =>
    obtain ⟨M, Hh, Hl, rfl, hst⟩ := hcut
    unfold ptr
    clear hmk1 hmk2
    obtain ⟨t1, t2, t3, t4, t5, t6, t7, t8, t9, t10⟩ := hst
    have hms0 : MS w.heap.size wc n M Hh Hl [] (.slice none 0 0) [] := ⟨t1, World.ownsRow_nil _ _ _ _, ⟨Z1, t2, HZ1.out, fun i h => by simp at h⟩, ⟨Z2, t3, HZ2.out, fun i h => by simp at h⟩, fun i h => by simp at h,
      ⟨t4, t5, t6, t7, t8, t9, fun i h => by simp at h, fun i j _ h => by simp at h, fun g h => by simp [Value.ownBlock] at h⟩⟩
    clear t1 t2 t3 t4 t5 t6 t7 t8 t9 HZ1 HZ2
    generalize hT : w.heap.size = T at *
    go_wp2_with fail
    go_loopw [16] (fun i wr => ∃ k : Nat, k ≤ n ∧ i = .int .i64 k ∧ ∃ CS cv, CS.length = k ∧ MS T wr n M Hh Hl CS cv ((ps.take k).map (advance 0)) ∧ Below T w wr) (fun i _ => n - (intOf i).toNat)
    case atStart => exact ⟨0, Nat.zero_le _, rfl, [], _, rfl, hms0, t10⟩
    case round =>
      obtain ⟨k, hk, rfl, CS, cv, hCS, hms, hb⟩ := hrel
      clear hms0 t10
      by_cases hlt : k < n
      · have hbT : Below w.heap.size w wr := by rw [hT]; exact hb
        have p1 : wr.cell? ⟨S, k, none⟩ = some (ptr (PS.getD k 0)) := sum_cell hs1 hPS hlt hbT
        obtain ⟨hP1, gb, capb, hP2, hP3, _⟩ := hpt k hlt
        have p2 : wr.cell? ⟨PS.getD k 0, 0, none⟩ = some (.int .i64 1125899906842624) := pt_cell hP2 hbT 0 rfl
        have p3 : wr.cell? ⟨PS.getD k 0, 1, none⟩ = some (.slice (some ⟨gb, 0, none⟩) (encode (ps.getD k [])).length capb) := pt_cell hP2 hbT 1 rfl
        generalize PS.getD k 0 = P at *
        unfold ptr at p1
        have m0 := ms_cell hms 0 rfl
        have m1 := ms_cell hms 1 rfl
        have m2 := ms_cell hms 2 rfl
        have hMl : M < wr.heap.size := (Array.getElem?_eq_some_iff.1 hms.m).1
        have hMf : ∀ j, wr.frozen? ⟨M, j, none⟩ = false := fun j => frozen_of_row wr M j _ 34 hms.m
        have hss : ((ps.take k).map (advance 0)).length = k := by have := HN.out; simp; omega
        have hmem : ps.getD k [] ∈ ps := by
          have h : k < ps.length := by rw [HN.out]; exact hlt
          have e : ps.getD k [] = ps[k] := by simp [List.getD, h]
          rw [e]; exact List.getElem_mem h
        have hokk := hok _ hmem
        have hell := hl _ hmem
        have hmap : (ps.take (k + 1)).map (advance 0) = (ps.take k).map (advance 0) ++ [advance 0 (ps.getD k [])] := by
          have h : k < ps.length := by rw [HN.out]; exact hlt
          rw [List.take_succ_eq_append_getElem h, List.map_append]
          simp [List.getD, h]
        have HMAP : Hid ((ps.take (k + 1)).map (advance 0) = (ps.take k).map (advance 0) ++ [advance 0 (ps.getD k [])]) := hmap
        clear hmap
        generalize ps.getD k [] = es at *
        have hown := hms.own
        rw [hCS] at hown
        have hTw : T ≤ wr.heap.size := by have := hb.size; omega
        go_wp2_with fail
        go_cut [] (fun wc => ∃ C cv', MS T wc n M Hh Hl (CS ++ [C]) cv' ((ps.take k).map (advance 0)) ∧ (∃ cap, Cur wc C gb 0 cap 0 es) ∧ gb < T ∧ Below T w wc)
        case first =>
          go_region_law (first | (refine step_append_lies _ (by rfl) (.tmp 25) (.tmp 28) 30 (by rfl) T 35 i35 _ 1 8 Yba.underlying30 hi35 hz35 hs35 hb35 (by rfl) (by decide) cv k (CS.map ptr) (by rfl) (by exact owns_of_old hown (fun j hj => old2 wr _ _ j hj)) _ 1 1 [ptr wr.heap.size] (by rfl) (by rfl) (by exact new_cell wr _ _ _) (by intro u hu; simp at hu; subst hu; rfl) (by decide) (by unfold maxLen; omega) (by omega) (by simp; omega) (wr.heap.size + 2) (by simp) ?_; intro g5 cap5 w2 hown5 hgrow5 hat5 hlt5; obtain ⟨e5, f5⟩ := m_far hms (old_grown hgrow5 (fun j hj => old2 wr _ _ j hj))) | (go_simp; go_at_call 12; refine (cursor_any P (some ⟨gb, 0, none⟩) (encode es).length capb _ ?_ ?_).mono ?_; (simpa using p2); (simpa using p3); rintro e w1 ⟨rfl, n1, rfl⟩))
          all_goals go_wp2_with fail
          all_goals go_meet
          all_goals (case rel => exact mid_of hms hCS hss hT hb (by exact ⟨rfl, rfl, rfl, Nat.le_trans (Nat.le_add_right _ 2) (size2 wr _ _), fun j hj => old2 wr _ _ j hj⟩) (by exact new2 wr _ _) (by exact size2 wr _ _) hown5 hgrow5 hat5 hP3 hokk hell)
        case rest =>
          obtain ⟨C, cv', hms5, ⟨capc, hcur⟩, hgb, hb5⟩ := hcut
          have hlen5 : (CS ++ [C]).length = k + 1 := by simp [hCS]
          have hgC : (CS ++ [C]).getD k 0 = C := by simp [List.getD, ← hCS]
          obtain ⟨g5, cap5, hcv5, _, _⟩ := hms5.own.form (by omega)
          rw [hlen5] at hcv5
          subst hcv5
          have y0 := ms_cell hms5 0 rfl
          have y1 := ms_cell hms5 1 rfl
          have y2 := ms_cell hms5 2 rfl
          have y3 : wc.cell? ⟨g5, k, none⟩ = some (.pointer (some ⟨C, 0, none⟩)) := by
            have ho := hms5.own
            rw [hlen5] at ho
            rw [ho.cellAt k (by omega), List.map_append]
            simp [← hCS, ptr]
          obtain ⟨⟨x0, z0⟩, ⟨x1, z1⟩, ⟨x2, z2⟩, ⟨x3, z3⟩, zf, zg⟩ := row_cells hms5 hlt
          have hm6 := fun w1 hg => m6 (w1 := w1) hms5 (i := k) (by omega) hg
          rw [hgC] at hm6
          have HM6 : Hid (∀ (w1 : World), wc.grownBy w1 (some C) → _) := hm6
          clear hm6
          have d1 := hms5.apart.h4
          have d2 := hms5.apart.h5
          have d3 := hms5.apart.h6
          have d1' := d1.symm
          have d2' := d2.symm
          have d3' := d3.symm
          have dg := hms5.apart.own g5 rfl
          have d4 := dg.1
          have d5 := dg.2.1
          have d6 := dg.2.2.1
          have d4' := d4.symm
          have d5' := d5.symm
          have d6' := d6.symm
          have i0 : (0 : Int) ≤ (k : Int) := by omega
          have i1 : (k : Int) < (k : Int) + 1 := by omega
          have i2 : (k : Int) < (n : Int) := by omega
          clear dg hown m0 m1 m2 hMl hMf p1 p2 p3 hms hb
          go_wp2_with fail
          go_region_held3 (fun w' => w'.cell? ⟨M, 0, none⟩ = some (.slice (some ⟨g5, 0, none⟩) (k + 1) cap5) ∧ w'.cell? ⟨M, 1, none⟩ = some (.slice (some ⟨Hh, 0, none⟩) n n) ∧ w'.cell? ⟨M, 2, none⟩ = some (.slice (some ⟨Hl, 0, none⟩) n n) ∧ w'.cell? ⟨g5, k, none⟩ = some (.pointer (some ⟨C, 0, none⟩))) (go_keep) ((go_at_call 13; refine (next_any C gb 0 capc 0 es _ ?_).mono ?_; (exact hcur.keep rfl rfl); rintro e w1 ⟨rfl, hg1, o1, cap1, hc1⟩; obtain ⟨r1, r2, r3, r4, r5, r6⟩ := HM6.out w1 ⟨hg1.os, hg1.tape, hg1.output, hg1.size, hg1.block⟩; unfold cluV))
          go_wp2_with fail
          have hfin := ms_set (i := k) (st := advance 0 es) (ss' := (ps.take k).map (advance 0) ++ [advance 0 es]) (nn := 0) hms5 (by omega) hlt (by rw [hgC]; exact ⟨hg1.os, hg1.tape, hg1.output, hg1.size, hg1.block⟩) (by rw [hgC]; exact hc1) hgb (by rw [hlen5, List.length_append, hss]; exact Nat.le_refl _) (getD_last _ _ _ hss) (fun j hj hne => by
            rw [List.length_append, hss] at hj
            simp at hj
            refine ⟨by omega, ?_⟩
            simp only [List.getD]
            rw [List.getElem?_append_left (by omega)])
          go_roundw
          case rel => exact ⟨k + 1, by omega, by go_num, _, _, hlen5, by rw [HMAP.out]; exact hfin.1, hb5.trans hfin.2⟩
          case measure => simp [intOf]; omega
      · obtain rfl : k = n := by omega
        go_wp2_with fail
        go_ret
        have e : ps.take k = ps := List.take_of_length_le (by rw [HN.out]; exact Nat.le_refl _)
        rw [e] at hms
        exact ⟨M, Hh, Hl, CS, cv, rfl, by rw [hT]; exact hms, hCS, by rw [hT]; exact hb⟩
end Go.Proofs.Ybulkbmoi
