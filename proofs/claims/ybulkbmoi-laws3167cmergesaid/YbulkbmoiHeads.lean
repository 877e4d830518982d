/-
  LawS3167CHeads, walked.
-/
import Derived.Test.YbulkbmoiMerge2
namespace Go.Proofs.Ybulkbmoi
open Go.RowKit Go

theorem fits_spec {m : Nat} {ps : List (List Ent)} (h : fitsB m ps = true) : ps.length ≤ m ∧ ∀ p ∈ ps, p.length ≤ 256 := by
  unfold fitsB at h
  simp at h
  exact h

theorem pts_ok {w : World} {v : Value} {ps : List (List Ent)} (h : PtsRow w v ps) : ∀ p ∈ ps, ∀ e ∈ p, e.ok := by
  obtain ⟨ao, cap, _, h2⟩ := h
  intro p hp
  obtain ⟨i, hi, rfl⟩ := List.getElem_of_mem hp
  obtain ⟨b, off, _, h3⟩ := h2 (by omega)
  obtain ⟨vi, _, eo, ecap, _, h4, _⟩ := h3 i hi
  have e : ps.getD i [] = ps[i] := by simp [List.getD, hi]
  rw [e] at h4
  exact h4

/-- What the law reads of point i. -/
structure PtFacts (w : World) (S M g5 Hh Hl i : Nat) (es : List Ent) (C : Nat) (a : Option Addr) (c : Nat) : Prop where
  cur : w.cell? ⟨g5, i, none⟩ = some (.pointer (some ⟨C, 0, none⟩))
  c1 : w.cell? ⟨C, 1, none⟩ = some (.int .i64 17179869184)
  c2 : w.cell? ⟨C, 2, none⟩ = some (.int .i64 ((nextN 0 es : Int) - 1))
  c3 : w.cell? ⟨C, 3, none⟩ = some (.bool false)
  c0 : ∃ g o cap, w.cell? ⟨C, 0, none⟩ = some (.slice (some ⟨g, o, none⟩) (encode es.tail).length cap)
  want : w.cell? ⟨S + 1, i, none⟩ = some (.slice a es.length c)
  first : 0 < es.length → ∃ gw, a = some ⟨gw, 0, none⟩ ∧ w.cell? ⟨gw, 0, none⟩ = some (.int .i64 (headC 0 es).idx) ∧ w.cell? ⟨gw, 1, none⟩ = some (.bool (headC 0 es).zeros) ∧ w.cell? ⟨gw, 2, none⟩ = some (.int .u32 (headC 0 es).crc)
  h0 : w.cell? ⟨Hh, i * 3, none⟩ = some (.int .i64 (headC 0 es).idx)
  h1 : w.cell? ⟨Hh, i * 3 + 1, none⟩ = some (.bool (headC 0 es).zeros)
  h2 : w.cell? ⟨Hh, i * 3 + 2, none⟩ = some (.int .u32 (headC 0 es).crc)
  lv : w.cell? ⟨Hl, i, none⟩ = some (.bool (!es.isEmpty))

theorem head_at (l : List Clu) (h : 0 < l.length) : l[0] = l.headD ⟨0, false, 0⟩ := by
  cases l with
  | nil => simp at h
  | cons x xs => rfl

theorem pt_facts {S T n M Hh Hl g5 cap5 i : Nat} {w1 w2 : World} {ps : List (List Ent)} {CS : List Nat} (ho : Outer S w1 ps ps.length) (hT : w1.heap.size = T) (hb : Below T w1 w2) (hms : MS T w2 ps.length M Hh Hl CS (.slice (some ⟨g5, 0, none⟩) n cap5) (ps.map (advance 0))) (hCS : CS.length = ps.length) (hn : ps.length = n) (hi : i < n) :
    ∃ C a c, PtFacts w2 S M g5 Hh Hl i (ps.getD i []) C a c := by
  subst hn
  obtain ⟨PS, WV, hPS, hWV, hs1, hs2, hpt⟩ := ho
  obtain ⟨_, gb, capb, _, _, hw⟩ := hpt i hi
  have hsi : (ps.map (advance 0)).getD i dSt = advance 0 (ps.getD i []) := by simp [List.getD, hi]
  have hsi' : (ps.map (advance 0)).getD i ⟨false, ⟨0, false, 0⟩, 0, []⟩ = advance 0 (ps.getD i []) := hsi
  obtain ⟨g, o, cap, hc, _⟩ := hms.cur i (by simpa using hi)
  rw [hsi] at hc
  obtain ⟨d0, d1, d2, d3, _, _⟩ := hc.cells
  obtain ⟨hcur, hh1, hh2, hh3⟩ := hms.heads
  obtain ⟨lcur, hl1, hl2, hl3⟩ := hms.live
  have e3 := hh3 i (by simpa using hi)
  have e4 := hl3 i (by simpa using hi)
  rw [hsi'] at e3 e4
  have hwc : w2.cell? ⟨S + 1, i, none⟩ = some (WV.getD i (.slice none 0 0)) := by
    have h1 : w1.cell? ⟨S + 1, i, none⟩ = some (WV.getD i (.slice none 0 0)) := by
      rw [hs2.cellAt i (by omega)]
      have : i < WV.length := by omega
      simp [List.getD, this]
    rw [hb.cell (by rw [← hT]; exact World.block_lt_of_cell? w1 _ h1)]
    exact h1
  obtain ⟨a, c, hv⟩ : ∃ a c, WV.getD i (.slice none 0 0) = .slice a (ps.getD i []).length c := by
    rcases hw.2 with ⟨h1, h2⟩ | ⟨g, c, cur, h1, _⟩
    · exact ⟨none, 0, by rw [h1, h2]⟩
    · exact ⟨_, c, h1⟩
  rw [hv] at hwc hw
  refine ⟨CS.getD i 0, a, c, ⟨?_, d1, d2, d3, ⟨g, o, cap, d0⟩, hwc, fun hp => ?_, ?_, ?_, ?_, ?_⟩⟩
  · have ho := hms.own
    rw [hCS] at ho
    rw [ho.cellAt i (by omega)]
    have : i < CS.length := by omega
    simp [List.getD, this, ptr]
  · obtain ⟨gw, cw, hf, _, hlt⟩ := hw.form hp
    simp only [Value.slice.injEq, true_and] at hf
    obtain ⟨rfl, rfl⟩ := hf
    have hat := cluCells_at (decode 0 (ps.getD i [])) 0 (by rw [decode_length]; exact hp)
    have hhd : (decode 0 (ps.getD i []))[0]'(by rw [decode_length]; exact hp) = headC 0 (ps.getD i []) := by
      exact head_at _ _
    rw [hhd] at hat
    have hlow : ∀ j, w2.cell? ⟨gw, j, none⟩ = w1.cell? ⟨gw, j, none⟩ := fun j => hb.cell (by rw [← hT]; exact hlt)
    refine ⟨gw, rfl, ?_, ?_, ?_⟩
    · rw [hlow, hw.cellAt 0 (by omega)]; exact hat.1
    · rw [hlow, hw.cellAt 1 (by omega)]; exact hat.2.1
    · rw [hlow, hw.cellAt 2 (by omega)]; exact hat.2.2
  · rw [cell_of_row w2 Hh _ hcur 41 (0, 0) hh1]; exact e3.1
  · rw [cell_of_row w2 Hh _ hcur 41 (0, 0) hh1]; exact e3.2.1
  · rw [cell_of_row w2 Hh _ hcur 41 (0, 0) hh1]; exact e3.2.2
  · rw [cell_of_row w2 Hl _ lcur 4 (0, 0) hl1]; exact e4

set_option maxRecDepth 100000 in
set_option maxHeartbeats 1000000 in
theorem heads_walk (v0 : Value) (ps : List (List Ent)) (w : World) (hp : PtsRow w v0 ps) :
    Calls Yba.prog 3 #[v0] w fun e w' => e = .returned (.bool true) ∧ Below w.heap.size w w' := by
  have hok := pts_ok hp
  cases hf : fitsB 64 ps with
  | false =>
    have hc := fits_any v0 ps 64 (by omega) w hp
    rw [hf] at hc
    go_enter Yba.func3, Yba.ntmps3
    go_wp2_with fail
    refine hc.mono ?_
    rintro e w' ⟨rfl, rfl⟩
    go_wp2_with fail
    go_ret
    exact ⟨rfl, Below.refl _ _⟩
  | true =>
    have hc := fits_any v0 ps 64 (by omega) w hp
    rw [hf] at hc
    obtain ⟨hn, hl⟩ := fits_spec hf
    have hbld := build_any v0 ps w hp hn hl
    have HB : Hid (Calls Yba.prog 6 #[v0] w fun e w' => e = .returned (.tuple #[.slice (some ⟨w.heap.size, 0, none⟩) ps.length ps.length, .slice (some ⟨w.heap.size + 1, 0, none⟩) ps.length ps.length]) ∧ Outer w.heap.size w' ps ps.length ∧ Below w.heap.size w w') := hbld
    clear hbld hf
    go_enter Yba.func3, Yba.ntmps3
    go_wp2_with fail
    refine hc.mono ?_
    rintro e w' ⟨rfl, hw⟩
    subst hw
    clear hc
    go_wp2_with fail
    refine Calls.mono (Hid.out HB) ?_
    rintro e w1 ⟨rfl, hout, hb1⟩
    clear HB
    go_wp2_with fail
    refine (merge_any w'.heap.size ps w1 hn hl hok hout).mono ?_
    rintro e w2 ⟨M, Hh, Hl, CS, cv, rfl, hms, hCS, hb2⟩
    unfold ptr
    obtain ⟨ao, cap5, hcv, hsh⟩ : ∃ ao c, cv = .slice ao ps.length c ∧ (0 < ps.length → ∃ g, ao = some ⟨g, 0, none⟩) := by
      have ho := hms.own
      rw [hCS] at ho
      rcases ho.2 with ⟨h1, h2⟩ | ⟨g, c, cur, h1, _⟩
      · exact ⟨none, 0, by rw [h1, h2], fun h => by omega⟩
      · exact ⟨_, c, h1, fun _ => ⟨g, rfl⟩⟩
    subst hcv
    have y0 := ms_cell hms 0 rfl
    have y1 := ms_cell hms 1 rfl
    have y2 := ms_cell hms 2 rfl
    have hbel : ∀ nq, Below w'.heap.size w' (w2.drewN nq) := fun nq => by
      have h := hb1.trans (hb2.mono hb1.size)
      exact ⟨h.os, h.tape, h.output, h.size, h.block⟩
    have HBE : Hid (∀ nq, Below w'.heap.size w' (w2.drewN nq)) := hbel
    have HMS : Hid (MS w1.heap.size w2 ps.length M Hh Hl CS (.slice ao ps.length cap5) (ps.map (advance 0))) := hms
    have HOUT : Hid (Outer w'.heap.size w1 ps ps.length) := hout
    have HB2 : Hid (Below w1.heap.size w1 w2) := hb2
    clear hms hout hbel hb1 hb2
    generalize hS : w'.heap.size = S at *
    generalize hN : ps.length = n at *
    go_wp2_with fail
    go_loopw [48] (fun i wr => ∃ k nq : Nat, k ≤ n ∧ i = .int .i64 k ∧ wr = w2.drewN nq) (fun i _ => n - (intOf i).toNat)
    case atStart => exact ⟨0, 0, Nat.zero_le _, rfl, rfl⟩
    case round =>
      obtain ⟨k, nq, hk, rfl, rfl⟩ := hrel
      by_cases hlt : k < n
      · obtain ⟨g5, rfl⟩ := hsh (by omega)
        obtain ⟨C, a, c, F⟩ := pt_facts (i := k) (n := n) (S := S) (by rw [hN]; exact HOUT.out) rfl HB2.out (by rw [hN]; exact HMS.out) (by rw [hN]; exact hCS) hN hlt
        generalize ps.getD k [] = es at *
        obtain ⟨f0, f1, f2, f3, ⟨fg, fo, fc, f4⟩, f5, f6, f7, f8, f9, f10⟩ := F
        cases es with
        | nil =>
          have e1 : nextN 0 [] = 0 := rfl
          have e2 : (encode ([] : List Ent).tail).length = 1 := rfl
          have e3 : headC 0 [] = ⟨0, false, 0⟩ := rfl
          rw [e1] at f2
          rw [e2] at f4
          rw [e3] at f7 f8 f9
          clear e1 e2 e3 f6
          go_wp2_with fail
          go_roundw
          case rel => exact ⟨k + 1, _, by omega, by go_num, rfl⟩
          case measure => simp [intOf]; omega
        | cons E es =>
          obtain ⟨gw, rfl, x0, x1, x2⟩ := f6 (by simp)
          have e1 : nextN 0 (E :: es) = 0 + E.gap + 1 := rfl
          have e3 : (headC 0 (E :: es)).idx = 0 + E.gap := rfl
          rw [e1] at f2
          rw [e3] at f7 x0
          generalize (headC 0 (E :: es)).zeros = hz at *
          generalize (headC 0 (E :: es)).crc = hcr at *
          change _ = some (Value.bool true) at f10
          go_wp2_with fail
          go_quiet (fail)
          go_wp2_with fail
          go_roundw
          case rel => exact ⟨k + 1, _, by omega, by go_num, rfl⟩
          case measure => simp [intOf]; omega
      · go_wp2_with fail
        go_ret
        exact ⟨rfl, by rw [hS]; exact HBE.out _⟩
end Go.Proofs.Ybulkbmoi
