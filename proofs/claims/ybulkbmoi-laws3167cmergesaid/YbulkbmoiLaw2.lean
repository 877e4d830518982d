/-
  LawS3167CMerge, walked: the walk itself.
-/
import Derived.Test.YbulkbmoiLaw
namespace Go.Proofs.Ybulkbmoi
open Go.RowKit Go

theorem out_below {T : Nat} {w w' : World} {v : Value} {out : List Clu} (h : OutRow T w v out) (hb : Below w.heap.size w w') : OutRow T w' v out := owns_of_old (h : w.ownsRow T 41 3 v out.length (cluCells out)) hb.block

/-- One insertion, all told. -/
theorem ins_done {T p : Nat} {w1 Y w2 : World} {v v' : Value} {out : List Clu} {c : Clu} (hp : p = posOf out c.idx) (hnew : ¬ (posOf out c.idx < out.length ∧ (out.getD (posOf out c.idx) dClu).idx = c.idx)) (hrow : OutRow T Y v out) (hb : Below T w1 Y) (hTY : T ≤ Y.heap.size)
    (h : InsPost T v (cluCells out) out.length p (cluCell c) Y (.returned v') w2) : OutRow T w2 v' (ins out c) ∧ Below T w1 w2 := by
  subst hp
  obtain ⟨g, cap, he, h1, h2, h3⟩ := h
  have hv : v' = .slice (some ⟨g, 0, none⟩) (out.length + 1) cap := by
    injection he with he
  subst hv
  have hle := posOf_le out c.idx
  have e := ins_new out c hnew
  have hlen : (ins out c).length = out.length + 1 := by rw [e]; simp; omega
  refine ⟨?_, hb.trans (below_of_grown h2 hTY (fun k hk => ?_))⟩
  · unfold OutRow
    rw [hlen, e, cluCells_ins out c _ hle]
    exact h1
  · exact (World.ownsRow.lt (h := (hrow : Y.ownsRow T 41 3 v out.length (cluCells out))) k hk).1

theorem ins_call {T ocap cix ccrc : Nat} {czs : Bool} {w1 X : World} {oa : Option Addr} {out : List Clu} (hX4 : OutRow T X (.slice oa out.length ocap) out) (hX3 : Below T w1 X) (hTX : T ≤ X.heap.size) (hlen : out.length ≤ 4096)
    (hnew : ¬ (posOf out cix < out.length ∧ (out.getD (posOf out cix) dClu).idx = cix)) (N : Nat) :
    Calls Yba.prog 8 #[.slice oa out.length ocap, .int .i64 (posOf out cix), .slice (some ⟨X.heap.size, 0, none⟩) 1 1] ((X.drewN N).alloc (Obj.cells #[Value.int IntKind.i64 (cix : Int), Value.bool czs, Value.int IntKind.u32 (ccrc : Int)] 41)) (fun e w2 => ∃ v', e = .returned v' ∧ OutRow T w2 v' (ins out ⟨cix, czs, ccrc⟩) ∧ Below T w1 w2) := by
  have hb0 := below_alloc (X.drewN N) (Obj.cells #[Value.int IntKind.i64 (cix : Int), Value.bool czs, Value.int IntKind.u32 (ccrc : Int)] 41) 0
  have hb : Below X.heap.size X ((X.drewN N).alloc (Obj.cells #[Value.int IntKind.i64 (cix : Int), Value.bool czs, Value.int IntKind.u32 (ccrc : Int)] 41)) := ⟨hb0.os, hb0.tape, hb0.output, hb0.size, hb0.block⟩
  have hnewb : ((X.drewN N).alloc (Obj.cells #[Value.int IntKind.i64 (cix : Int), Value.bool czs, Value.int IntKind.u32 (ccrc : Int)] 41)).heap[X.heap.size]? = some (Obj.cells #[Value.int IntKind.i64 (cix : Int), Value.bool czs, Value.int IntKind.u32 (ccrc : Int)] 41 (0, 0)) := heap_alloc_new (X.drewN N) _
  generalize (X.drewN N).alloc (Obj.cells #[Value.int IntKind.i64 (cix : Int), Value.bool czs, Value.int IntKind.u32 (ccrc : Int)] 41) = Y at *
  have hY := out_below hX4 hb
  have hsz := hb.size
  refine (insert_any T out.length (posOf out cix) X.heap.size (.slice oa out.length ocap) (cluCells out) (cluCell ⟨cix, czs, ccrc⟩) Y hY (posOf_le _ _) hlen (by omega) (fun e => ?_) rfl hnewb (by simp [cluCell]; exact ⟨rfl, rfl, rfl⟩) (cluCells_one out)).mono fun e w2 h => ?_
  · have := ((hX4 : X.ownsRow T 41 3 _ out.length (cluCells out)).lt _ e).2
    omega
  · obtain ⟨g, cap, he, h1⟩ := h
    subst he
    exact ⟨_, rfl, ins_done rfl hnew hY (hX3.trans (hb.mono hTX)) (by omega) ⟨g, cap, rfl, h1⟩⟩

set_option maxRecDepth 100000 in
set_option maxHeartbeats 1000000 in
theorem merge_walk (v0 : Value) (ps : List (List Ent)) (w : World) (hp : PtsRow w v0 ps) :
    Calls Yba.prog 4 #[v0] w fun e w' => e = .returned (.bool true) ∧ Below w.heap.size w w' := by
  have hok := pts_ok hp
  cases hf : fitsB 16 ps with
  | false =>
    have hc := fits_any v0 ps 16 (by omega) w hp
    rw [hf] at hc
    go_enter Yba.func4, Yba.ntmps4
    go_wp2_with fail
    refine hc.mono ?_
    rintro e w' ⟨rfl, rfl⟩
    go_wp2_with fail
    go_ret
    exact ⟨rfl, Below.refl _ _⟩
  | true =>
    have hc := fits_any v0 ps 16 (by omega) w hp
    rw [hf] at hc
    obtain ⟨hn16, hl⟩ := fits_spec hf
    have hn : ps.length ≤ 64 := by omega
    have hbld := build_any v0 ps w hp hn hl
    have HB : Hid (Calls Yba.prog 6 #[v0] w fun e w' => e = .returned (.tuple #[.slice (some ⟨w.heap.size, 0, none⟩) ps.length ps.length, .slice (some ⟨w.heap.size + 1, 0, none⟩) ps.length ps.length]) ∧ Outer w.heap.size w' ps ps.length ∧ Below w.heap.size w w') := hbld
    clear hbld hf
    go_enter Yba.func4, Yba.ntmps4
    go_wp2_with fail
    refine hc.mono ?_
    rintro e w' ⟨rfl, hw⟩
    subst hw
    clear hc
    go_wp2_with fail
    refine Calls.mono (Hid.out HB) ?_
    rintro e w1 ⟨rfl, hout, hb1⟩
    clear HB
    have HOUT : Hid (Outer w'.heap.size w1 ps ps.length) := hout
    have HB1 : Hid (Below w'.heap.size w' w1) := hb1
    have HOK : Hid (∀ p ∈ ps, ∀ e ∈ p, e.ok) := hok
    have HL : Hid (∀ p ∈ ps, p.length ≤ 256) := hl
    have hST : w'.heap.size ≤ w1.heap.size := hb1.size
    have HP : Hid (PtsRow w' v0 ps) := hp
    clear hout hb1 hok hl hp
    generalize hS : w'.heap.size = S at *
    generalize hT : w1.heap.size = T at *
    generalize hN : ps.length = n at *
    go_wp2_with fail
    go_loopw [5, 28] (fun v i wr => ∃ k : Nat, k ≤ n ∧ i = .int .i64 k ∧ OutRow T wr v (outN ps k) ∧ Below T w1 wr) (fun _ i _ => n - (intOf i).toNat)
    case atStart => exact ⟨0, Nat.zero_le _, rfl, World.ownsRow_nil _ _ _ _, Below.refl _ _⟩
    case round =>
      obtain ⟨k, hk, rfl, hrow, hb⟩ := hrel
      by_cases hlt : k < n
      · obtain ⟨wa, wcp, hwc, hwj⟩ := want_row HOUT.out (i := k) hlt
        have hS1 : S + 1 < T := by rw [← hT]; exact World.block_lt_of_cell? w1 _ hwc
        have hwr : wr.cell? ⟨S + 1, k, none⟩ = some (.slice wa (ps.getD k []).length wcp) := by rw [hb.cell hS1]; exact hwc
        have HWJ : Hid (∀ j, j < (ps.getD k []).length → ∃ g, wa = some ⟨g, 0, none⟩ ∧ g < T ∧ w1.cell? ⟨g, j * 3, none⟩ = some (.int .i64 ((decode 0 (ps.getD k [])).getD j dClu).idx) ∧ w1.cell? ⟨g, j * 3 + 1, none⟩ = some (.bool ((decode 0 (ps.getD k [])).getD j dClu).zeros) ∧ w1.cell? ⟨g, j * 3 + 2, none⟩ = some (.int .u32 ((decode 0 (ps.getD k [])).getD j dClu).crc)) := by
          rw [hT] at hwj; exact hwj
        clear hwj hwc
        have HROW : Hid (OutRow T wr u5 (outN ps k)) := hrow
        have hm256 : (ps.getD k []).length ≤ 256 := by
          have hkp : k < ps.length := by rw [hN]; exact hlt
          have e : ps.getD k [] = ps[k] := by simp [List.getD, hkp]
          rw [e]; exact HL.out _ (List.getElem_mem hkp)
        clear hrow
        generalize hM : (ps.getD k []).length = m at *
        go_wp2_with fail
        go_loopw [5, 34] (fun v i wr => ∃ j : Nat, j ≤ m ∧ i = .int .i64 j ∧ OutRow T wr v (outJ ps k j) ∧ Below T w1 wr) (fun _ i _ => m - (intOf i).toNat)
        case atStart => exact ⟨0, Nat.zero_le _, rfl, HROW.out, hb⟩
        case round =>
          obtain ⟨j, hj, rfl, hrow, hb2⟩ := hrel
          clear HROW hb hwr
          by_cases hjm : j < m
          · obtain ⟨gw, rfl, hgw, c0, c1, c2⟩ := HWJ.out j hjm
            have d0 : wr.cell? ⟨gw, j * 3, none⟩ = _ := (hb2.cell hgw).trans c0
            have d1 : wr.cell? ⟨gw, j * 3 + 1, none⟩ = _ := (hb2.cell hgw).trans c1
            have d2 : wr.cell? ⟨gw, j * 3 + 2, none⟩ = _ := (hb2.cell hgw).trans c2
            have HSUC : Hid (outJ ps k (j + 1) = ins (outJ ps k j) ((decode 0 (ps.getD k [])).getD j dClu)) := outJ_succ ps k j (by rw [hM]; exact hjm)
            have hlen : (outJ ps k j).length ≤ 4096 := outJ_len ps k j (by rw [hN]; exact hlt) (by rw [hN]; exact hn16) HL.out
            obtain ⟨oa, ocap, rfl, hoc⟩ := out_form hrow
            generalize (decode 0 (ps.getD k [])).getD j dClu = c at *
            generalize outJ ps k j = out at *
            obtain ⟨cix, czs, ccrc⟩ := c
            dsimp only at d0 d1 d2
            clear c0 c1 c2
            have HOC : Hid (∀ p, p < out.length → ∃ g, oa = some ⟨g, 0, none⟩ ∧ g < wr.heap.size ∧ wr.cell? ⟨g, p * 3, none⟩ = some (.int .i64 (out.getD p dClu).idx) ∧ wr.cell? ⟨g, p * 3 + 1, none⟩ = some (.bool (out.getD p dClu).zeros) ∧ wr.cell? ⟨g, p * 3 + 2, none⟩ = some (.int .u32 (out.getD p dClu).crc)) := hoc
            have HROW : Hid (OutRow T wr (.slice oa out.length ocap) out) := hrow
            clear hoc hrow
            go_wp2_with fail
            have hX1 : (wr.alloc (Obj.cells #[Value.int IntKind.i64 (cix : Int), Value.bool czs, Value.int IntKind.u32 (ccrc : Int)] 41)).heap[wr.heap.size]? = some (Obj.cells #[Value.int IntKind.i64 (cix : Int), Value.bool czs, Value.int IntKind.u32 (ccrc : Int)] 41 (0, 0)) := heap_alloc_new _ _
            have hX2 : Below wr.heap.size wr (wr.alloc (Obj.cells #[Value.int IntKind.i64 (cix : Int), Value.bool czs, Value.int IntKind.u32 (ccrc : Int)] 41)) := below_alloc wr _ 0
            have hTR : T ≤ wr.heap.size := by have := hb2.size; omega
            have hX3 : Below T w1 (wr.alloc (Obj.cells #[Value.int IntKind.i64 (cix : Int), Value.bool czs, Value.int IntKind.u32 (ccrc : Int)] 41)) := hb2.trans (hX2.mono hTR)
            have hX4 : OutRow T (wr.alloc (Obj.cells #[Value.int IntKind.i64 (cix : Int), Value.bool czs, Value.int IntKind.u32 (ccrc : Int)] 41)) (.slice oa out.length ocap) out := out_below HROW.out hX2
            clear HOC HROW d0 d1 d2 hb2 hX2
            generalize wr.alloc (Obj.cells #[Value.int IntKind.i64 (cix : Int), Value.bool czs, Value.int IntKind.u32 (ccrc : Int)] 41) = X at *
            generalize wr.heap.size = R at *
            have x0 : X.cell? ⟨R, 0, none⟩ = some (.int .i64 cix) := by rw [cell_of_row X _ _ _ 41 (0, 0) hX1]; rfl
            have x1 : X.cell? ⟨R, 1, none⟩ = some (.bool czs) := by rw [cell_of_row X _ _ _ 41 (0, 0) hX1]; rfl
            have x2 : X.cell? ⟨R, 2, none⟩ = some (.int .u32 ccrc) := by rw [cell_of_row X _ _ _ 41 (0, 0) hX1]; rfl
            have hTX : T ≤ X.heap.size := by have := (Array.getElem?_eq_some_iff.1 hX1).1; omega
            have HX3 : Hid (Below T w1 X) := hX3
            have HX4 : Hid (OutRow T X (.slice oa out.length ocap) out) := hX4
            have HOC : Hid (∀ p, p < out.length → ∃ g, oa = some ⟨g, 0, none⟩ ∧ X.cell? ⟨g, p * 3, none⟩ = some (.int .i64 (out.getD p dClu).idx)) := by
              obtain ⟨a, cp, he, hh⟩ := out_form hX4
              simp only [Value.slice.injEq, true_and] at he
              obtain ⟨rfl, rfl⟩ := he
              intro p hp
              obtain ⟨g, e1, _, e2, _⟩ := hh p hp
              exact ⟨g, e1, e2⟩
            have hple : posOf out cix ≤ out.length := posOf_le out cix
            have HPL : Hid (∀ p, p < posOf out cix → (out.getD p dClu).idx < cix) := posOf_lt out cix
            have HPS : Hid (posOf out cix < out.length → ¬ (out.getD (posOf out cix) dClu).idx < cix) := posOf_stop out cix
            have HFND : Hid (posOf out cix < out.length → (out.getD (posOf out cix) dClu).idx = cix → ins out ⟨cix, czs, ccrc⟩ = out) := ins_found out ⟨cix, czs, ccrc⟩
            have HINS : Hid (¬ (posOf out cix < out.length ∧ (out.getD (posOf out cix) dClu).idx = cix) → ∀ N, Calls Yba.prog 8 #[.slice oa out.length ocap, .int .i64 (posOf out cix), .slice (some ⟨X.heap.size, 0, none⟩) 1 1] ((X.drewN N).alloc (Obj.cells #[Value.int IntKind.i64 (cix : Int), Value.bool czs, Value.int IntKind.u32 (ccrc : Int)] 41)) (fun e w2 => ∃ v', e = .returned v' ∧ OutRow T w2 v' (ins out ⟨cix, czs, ccrc⟩) ∧ Below T w1 w2)) := ins_call hX4 hX3 hTX hlen
            clear hX1 hX3 hX4
            generalize hpos : posOf out cix = P at *
            go_loopw [10] (fun i wx => ∃ p nq : Nat, p ≤ P ∧ i = .int .i64 p ∧ wx = X.drewN nq) (fun i _ => out.length - (intOf i).toNat)
            case atStart => exact ⟨0, 0, Nat.zero_le _, rfl, rfl⟩
            case round =>
              obtain ⟨p, nq, hpp, rfl, rfl⟩ := hrel
              by_cases hpP : p < P
              · obtain ⟨og, rfl, o0⟩ := HOC.out p (by omega)
                have hcmp := HPL.out p hpP
                have hplt : p < out.length := by omega
                generalize (out.getD p dClu).idx = oix at *
                generalize out.length = ol at *
                go_wp2_with fail
                go_quiet (fail)
                go_wp2_with fail
                go_roundw
                case rel => exact ⟨p + 1, _, by omega, by go_num, rfl⟩
                case measure => simp [intOf]; omega
              · obtain rfl : p = P := by omega
                by_cases hend : p < out.length
                · obtain ⟨og, rfl, o0⟩ := HOC.out p hend
                  have hcmp := HPS.out hend
                  by_cases hfd : (out.getD p dClu).idx = cix
                  · have HE : Hid (outJ ps k (j + 1) = out) := HSUC.out.trans (HFND.out hend hfd)
                    rw [hfd] at o0 hcmp
                    have hol : ∃ ol, out.length = ol := ⟨_, rfl⟩
                    obtain ⟨ol, hol⟩ := hol
                    rw [hol] at hend hple
                    have HOL : Hid (out.length = ol) := hol
                    rw [hol] at HX4
                    clear hfd HFND HINS HSUC
                    go_wp2_with fail
                    rw [hol]
                    clear hol
                    go_quiet (fail)
                    go_wp2_with fail
                    go_quiet (fail)
                    go_wp2_with fail
                    go_roundw
                    case rel => exact ⟨j + 1, by omega, by go_num, by rw [HE.out]; exact HX4.out, ⟨HX3.out.os, HX3.out.tape, HX3.out.output, HX3.out.size, HX3.out.block⟩⟩
                    case measure => simp [intOf]; omega
                  · have HC := HINS.out (fun h => hfd h.2)
                    have HCC : Hid (∀ N, Calls Yba.prog 8 #[.slice (some ⟨og, 0, none⟩) out.length ocap, .int .i64 p, .slice (some ⟨X.heap.size, 0, none⟩) 1 1] ((X.drewN N).alloc (Obj.cells #[Value.int IntKind.i64 (cix : Int), Value.bool czs, Value.int IntKind.u32 (ccrc : Int)] 41)) (fun e w2 => ∃ v', e = .returned v' ∧ OutRow T w2 v' (ins out ⟨cix, czs, ccrc⟩) ∧ Below T w1 w2)) := HC
                    clear HC HINS
                    have hfd' : ¬ (((out.getD p dClu).idx : Int) = (cix : Int)) := by omega
                    clear hfd
                    generalize hoi : (out.getD p dClu).idx = oix at *
                    clear hoi
                    go_wp2_with fail
                    go_quiet (fail)
                    go_wp2_with fail
                    go_quiet (fail)
                    go_wp2_with fail
                    refine (HCC.out _).mono ?_
                    rintro e w2 ⟨v', rfl, hrow', hb'⟩
                    go_wp2_with fail
                    go_roundw
                    case rel => exact ⟨j + 1, by omega, by go_num, by rw [HSUC.out]; exact hrow', hb'⟩
                    case measure => simp [intOf]; omega
                · have HC := HINS.out (fun h => hend h.1)
                  have HCC : Hid (∀ N, Calls Yba.prog 8 #[.slice oa out.length ocap, .int .i64 p, .slice (some ⟨X.heap.size, 0, none⟩) 1 1] ((X.drewN N).alloc (Obj.cells #[Value.int IntKind.i64 (cix : Int), Value.bool czs, Value.int IntKind.u32 (ccrc : Int)] 41)) (fun e w2 => ∃ v', e = .returned v' ∧ OutRow T w2 v' (ins out ⟨cix, czs, ccrc⟩) ∧ Below T w1 w2)) := HC
                  clear HC HINS
                  go_wp2_with fail
                  go_quiet (fail)
                  go_wp2_with fail
                  go_quiet (fail)
                  go_wp2_with fail
                  refine (HCC.out _).mono ?_
                  rintro e w2 ⟨v', rfl, hrow', hb'⟩
                  go_wp2_with fail
                  go_roundw
                  case rel => exact ⟨j + 1, by omega, by go_num, by rw [HSUC.out]; exact hrow', hb'⟩
                  case measure => simp [intOf]; omega
          · obtain rfl : m = j := by omega
            have HE : Hid (outJ ps k m = outN ps (k + 1)) := by
              have := outJ_all ps k (by rw [hN]; exact hlt)
              rw [hM] at this
              exact this
            have HROW : Hid (OutRow T wr u5 (outJ ps k m)) := hrow
            clear hrow
            go_wp2_with fail
            go_roundw
            case rel => exact ⟨k + 1, by omega, by go_num, by rw [← HE.out]; exact HROW.out, hb2⟩
            case measure => simp [intOf]; omega
      · obtain rfl : n = k := by omega
        have HROW : Hid (OutRow T wr u5 (outN ps n)) := hrow
        clear hrow
        have hO := outer_below HOUT.out (by rw [hT]; exact hb)
        have HMG : Hid (Calls Yba.prog 7 #[.slice (some ⟨S, 0, none⟩) n n] wr fun e w' => ∃ M Hh Hl CS cv, e = .returned (ptr M) ∧ MS wr.heap.size w' n M Hh Hl CS cv (ps.map (advance 0)) ∧ CS.length = n ∧ Below wr.heap.size wr w') := by
          have h := merge_any S ps wr (by omega) HL.out HOK.out (by rw [hN]; exact hO)
          rw [hN] at h
          exact h
        clear hO
        go_wp2_with fail
        refine (HMG.out).mono ?_
        rintro e w2 ⟨M, Hh, Hl, CS, cv, rfl, hms, hCS, hb3⟩
        clear HMG
        unfold ptr
        have HE : Hid (outN ps n = outOf (remAll (ps.map (advance 0)))) := by
          show _ = _
          unfold outN
          rw [rem_start, List.take_of_length_le (by omega)]
        have hol : (outN ps n).length ≤ 4096 := by
          have h1 := fold_length ((ps.take n).flatMap (decode 0)) []
          have h2 := flat_len (ps.take n) (fun p hp => HL.out p (List.mem_of_mem_take hp))
          rw [List.length_take] at h2
          unfold outN outOf
          rw [List.length_nil, Nat.zero_add] at h1
          omega
        have HBW : Hid (Below S w' wr) := by
          show Below S w' wr
          exact HB1.out.trans (hb.mono hST)
        have hSw : S ≤ wr.heap.size := by have := hb.size; omega
        have hTw2 : wr.heap.size ≤ w2.heap.size := hb3.size
        obtain ⟨oa, ocap, rfl, hoc⟩ := out_form HROW.out
        clear HROW hb
        have HOC : Hid (∀ p, p < (outN ps n).length → ∃ g, oa = some ⟨g, 0, none⟩ ∧ g < wr.heap.size ∧ w2.cell? ⟨g, p * 3, none⟩ = some (.int .i64 ((outN ps n).getD p dClu).idx) ∧ w2.cell? ⟨g, p * 3 + 1, none⟩ = some (.bool ((outN ps n).getD p dClu).zeros) ∧ w2.cell? ⟨g, p * 3 + 2, none⟩ = some (.int .u32 ((outN ps n).getD p dClu).crc)) := by
          intro p hp
          obtain ⟨g, e, hg, c0, c1, c2⟩ := hoc p hp
          exact ⟨g, e, hg, (hb3.cell hg).trans c0, (hb3.cell hg).trans c1, (hb3.cell hg).trans c2⟩
        have HMS0 : Hid (MS wr.heap.size w2 n M Hh Hl CS cv (ps.map (advance 0))) := hms
        have HB3 : Hid (Below wr.heap.size wr w2) := hb3
        clear hoc hms hb3
        generalize outN ps n = out at *
        generalize hT' : wr.heap.size = T' at *
        go_wp2_with fail
        go_loopw [12, 13] (fun g i wx => ∃ k : Nat, k ≤ out.length ∧ g = .int .i64 k ∧ i = .int .i64 k ∧ ∃ ss, ss.length = n ∧ (∀ st ∈ ss, Good st) ∧ outOf (remAll ss) = out.drop k ∧ MS T' wx n M Hh Hl CS cv ss ∧ Below T' w2 wx) (fun _ i _ => out.length + 1 - (intOf i).toNat)
        case atStart => exact ⟨0, Nat.zero_le _, rfl, rfl, ps.map (advance 0), by simpa using hN, fun st hst => by
            rw [List.mem_map] at hst
            obtain ⟨p, _, rfl⟩ := hst
            exact good_advance 0 p, by rw [← HE.out]; rfl, HMS0.out, Below.refl _ _⟩
        case round =>
          obtain ⟨k, hk, rfl, rfl, ss, hss, hgood, hdr, hms, hbx⟩ := hrel
          clear HMS0 HE
          have hmn := mnext_any T' n M Hh Hl CS cv ss wr hms (by have := hbx.size; omega) hss hCS (by omega)
          have hTx : T' ≤ wr.heap.size := by have := hbx.size; omega
          cases hat : atN ss n with
          | none =>
            have HMN : Hid (Calls Yba.prog 9 #[.pointer (some ⟨M, 0, none⟩)] wr fun e w' => e = .returned (.tuple #[cluV ⟨0, false, 0⟩, .bool false]) ∧ MS T' w' n M Hh Hl CS cv ss ∧ Below T' wr w') := hmn.mono fun e w' h => by
              unfold MPost at h; rw [hat] at h; exact h
            clear hmn
            have hnil := drain_none ss hgood (by rw [hss]; exact hat)
            rw [hnil] at hdr
            have hke : k = out.length := by
              have := congrArg List.length hdr
              simp at this
              omega
            have HSEC : Hid (∀ w3 : World, MS T' w3 n M Hh Hl CS cv ss → Below T' wr w3 → ∀ o : Obj, Calls Yba.prog 9 #[.pointer (some ⟨M, 0, none⟩)] (w3.alloc o) fun e w' => e = .returned (.tuple #[cluV ⟨0, false, 0⟩, .bool false]) ∧ Below T' w3 w') := fun w3 h1 h2 o => by
              have hs3 := h2.size
              have hb := below_alloc w3 o 0
              refine (mnext_any T' n M Hh Hl CS cv ss (w3.alloc o) (ms_below h1 (by omega) (by omega) hb) (by have := hb.size; exact Nat.le_trans (by omega) this) hss hCS (by omega)).mono fun e w' h => ?_
              unfold MPost at h
              rw [hat] at h
              have hb' : Below T' w3 (w3.alloc o) := Below.mono hb (by omega)
              exact ⟨h.1, hb'.trans h.2.2⟩
            clear hdr hnil hms hgood hat
            generalize out.length = ol at *
            subst hke
            go_wp2_with fail
            refine (HMN.out).mono ?_
            rintro e w3 ⟨rfl, hms3, hb3⟩
            clear HMN
            unfold cluV
            go_wp2_with fail
            refine (HSEC.out w3 hms3 hb3 _).mono ?_
            rintro e w4 ⟨rfl, hb4⟩
            unfold cluV
            go_wp2_with fail
            go_ret
            have z1 := hb3.size
            have z2 := hb4.size
            have hall := (((HBW.out.trans (HB3.out.mono hSw)).trans (hbx.mono hSw)).trans (hb3.mono hSw)).trans (hb4.mono hSw)
            exact ⟨rfl, by rw [hS]; exact hall.trans (Below.mono (below_alloc w4 _ 0) (by omega))⟩
          | some a =>
            have HMN : Hid (Calls Yba.prog 9 #[.pointer (some ⟨M, 0, none⟩)] wr fun e w' => e = .returned (.tuple #[cluV (ss.getD a dSt).head, .bool true]) ∧ MS T' w' n M Hh Hl CS cv (ss.map (stepSt (idxAt ss a))) ∧ Below T' wr w') := hmn.mono fun e w' h => by
              unfold MPost at h; rw [hat] at h; exact h
            clear hmn
            obtain ⟨h1, h2⟩ := drain_some ss hgood a (by rw [hss]; exact hat)
            rw [h1] at hdr
            have hklt : k < out.length := by
              have := congrArg List.length hdr
              simp at this
              omega
            have hdc : out.drop k = out[k] :: out.drop (k + 1) := List.drop_eq_getElem_cons hklt
            rw [hdc] at hdr
            injection hdr with e1 e2
            obtain ⟨og, rfl, hog, c0, c1, c2⟩ := HOC.out k hklt
            rw [getD_clu _ _ hklt, ← e1] at c0 c1 c2
            have HE2 : Hid (outOf (remAll (ss.map (stepSt (idxAt ss a)))) = out.drop (k + 1)) := e2
            have HG2 : Hid (∀ st ∈ ss.map (stepSt (idxAt ss a)), Good st) := h2
            have HSL : Hid ((ss.map (stepSt (idxAt ss a))).length = n) := by
              show _ = _
              rw [List.length_map]; exact hss
            clear hdc e1 e2 h1 h2 hms hgood hat
            generalize ss.map (stepSt (idxAt ss a)) = ss' at *
            generalize (ss.getD a dSt).head = hd at *
            obtain ⟨hix, hzs, hcrc⟩ := hd
            dsimp only at c0 c1 c2
            have HOL : Hid (∃ ol, out.length = ol) := ⟨_, rfl⟩
            go_wp2_with fail
            refine (HMN.out).mono ?_
            rintro e w3 ⟨rfl, hms3, hb3⟩
            clear HMN
            have hb5 := hbx.trans hb3
            have k0 : w3.cell? ⟨og, k * 3, none⟩ = _ := (hb5.cell hog).trans c0
            have k1 : w3.cell? ⟨og, k * 3 + 1, none⟩ = _ := (hb5.cell hog).trans c1
            have k2 : w3.cell? ⟨og, k * 3 + 2, none⟩ = _ := (hb5.cell hog).trans c2
            have hog3 : og < w3.heap.size := by have := hb3.size; omega
            have hT3 : T' ≤ w3.heap.size := by have := hb3.size; omega
            have HMS3 : Hid (MS T' w3 n M Hh Hl CS cv ss') := hms3
            have HB5 : Hid (Below T' w2 w3) := hb5
            clear hms3 hb5 hb3 c0 c1 c2
            unfold cluV
            go_wp2_with fail
            go_quiet (fail)
            go_wp2_with fail
            go_roundw
            case rel => exact ⟨k + 1, by omega, by go_num, by go_num, ss', HSL.out, HG2.out, HE2.out, ms_below HMS3.out hT3 (by rw [HSL.out]; omega) (below_alloc w3 _ _), HB5.out.trans (Below.mono (below_alloc w3 _ _) hT3)⟩
            case measure => simp [intOf]; omega
end Go.Proofs.Ybulkbmoi
