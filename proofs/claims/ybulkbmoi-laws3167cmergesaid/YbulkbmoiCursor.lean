/-
  zzs3167cfits, ClustersFor, cursor.
-/
import Derived.Test.YbulkbmoiBuild
import Derived.Deep.RegionHeld3
import Derived.Deep.DeepCutAuto
namespace Go.Proofs.Ybulkbmoi
open Go.RowKit Go

def fitsB (m : Nat) (ps : List (List Ent)) : Bool := decide (ps.length ≤ m) && ps.all (fun p => decide (p.length ≤ 256))

theorem all_take (ps : List (List Ent)) (k : Nat) (h : k < ps.length) : (ps.take (k + 1)).all (fun p => decide (p.length ≤ 256)) = ((ps.take k).all (fun p => decide (p.length ≤ 256)) && decide ((ps.getD k []).length ≤ 256)) := by
  rw [List.take_succ_eq_append_getElem h, List.all_append]
  simp [List.getD, h]

theorem all_stop (ps : List (List Ent)) (k : Nat) (h : k < ps.length) (hb : ¬ (ps.getD k []).length ≤ 256) : ps.all (fun p => decide (p.length ≤ 256)) = false := by
  rw [List.all_eq_false]
  refine ⟨ps[k], List.getElem_mem h, ?_⟩
  have e : ps.getD k [] = ps[k] := by simp [List.getD, h]
  rw [e] at hb
  simpa using hb

set_option maxHeartbeats 1000000 in
theorem fits_any (v0 : Value) (ps : List (List Ent)) (m : Nat) (hm : m ≤ 1000) (w : World) (hp : PtsRow w v0 ps) :
    Calls Yba.prog 5 #[v0, .int .i64 m] w fun e w' => e = .returned (.bool (fitsB m ps)) ∧ w' = w := by
  obtain ⟨ao, cap, rfl, hrow⟩ := hp
  by_cases hle : ps.length ≤ m
  · have hF : fitsB m ps = ps.all (fun p => decide (p.length ≤ 256)) := by unfold fitsB; simp [hle]
    rw [hF]
    clear hF
    go_enter Yba.func5, Yba.ntmps5
    go_wp2_with fail
    go_loop [13] (fun i => ∃ k : Nat, k ≤ ps.length ∧ i = .int .i64 k ∧ Hid ((ps.take k).all (fun p => decide (p.length ≤ 256)) = true)) (fun i => ps.length - (intOf i).toNat)
    case atStart => exact ⟨0, Nat.zero_le _, rfl, rfl⟩
    case round =>
      obtain ⟨k, hk, rfl, hall⟩ := hrel
      by_cases hlt : k < ps.length
      · obtain ⟨b, off, rfl, hcell⟩ := hrow (by omega)
        obtain ⟨vi, c1, eo, ecap, rfl, hx1, hx2⟩ := hcell k hlt
        clear hx1 hx2
        have hn := all_take ps k hlt
        have hs := all_stop ps k hlt
        generalize (ps.getD k []).length = L at *
        by_cases hL : L ≤ 256
        · have HN : Hid ((ps.take (k + 1)).all (fun p => decide (p.length ≤ 256)) = true) := by
            show _ = true
            rw [hn, hall.out]; simpa using hL
          clear hn hs hcell hrow
          go_wp2_with fail
          go_round
          case rel => exact ⟨k + 1, by omega, by go_num, HN⟩
          case measure => simp [intOf]; omega
        · have hst := hs hL
          have HS : Hid (ps.all (fun p => decide (p.length ≤ 256)) = false) := hst
          clear hn hs hst hcell hrow
          go_wp2_with fail
          go_ret
          exact ⟨by rw [HS.out]; rfl, rfl⟩
      · obtain rfl : k = ps.length := by omega
        have HS : Hid (ps.all (fun p => decide (p.length ≤ 256)) = true) := by
          have h := hall.out
          rw [List.take_of_length_le (Nat.le_refl _)] at h
          exact h
        go_wp2_with fail
        go_ret
        exact ⟨by rw [HS.out]; rfl, rfl⟩
  · have hF : fitsB m ps = false := by unfold fitsB; simp [hle]
    rw [hF]
    clear hF
    go_enter Yba.func5, Yba.ntmps5
    go_wp2_with fail
    go_ret
    exact ⟨rfl, rfl⟩

theorem clusters_any (w : World) : Calls Yba.prog 16 #[.int .i64 1125899906842624] w fun e w' => e = .returned (.int .i64 17179869184) ∧ w = w' := by
  go_enter Yba.func16, Yba.ntmps16
  go_wp2
  go_ret
  exact ⟨rfl, rfl⟩

def curCells (ent : Value) (last : Int) (bad : Bool) : Array Value := #[ent, .int .i64 17179869184, .int .i64 last, .bool bad]

set_option maxHeartbeats 1000000 in
theorem cursor_any (P : Nat) (ea : Option Addr) (el ec : Nat) (w : World) (h0 : w.cell? ⟨P, 0, none⟩ = some (.int .i64 1125899906842624)) (h1 : w.cell? ⟨P, 1, none⟩ = some (.slice ea el ec)) :
    Calls Yba.prog 12 #[.pointer (some ⟨P, 0, none⟩)] w fun e w' => e = .returned (.pointer (some ⟨w.heap.size, 0, none⟩)) ∧ ∃ n, w' = (w.alloc (.cells (curCells (.slice ea el ec) (-1) false) 38)).drewN n := by
  unfold curCells
  go_enter Yba.func12, Yba.ntmps12
  go_wp2_with fail
  go_region_held3 (fun w' => w'.cell? ⟨P, 0, none⟩ = some (.int .i64 1125899906842624) ∧ w'.cell? ⟨P, 1, none⟩ = some (.slice ea el ec)) (go_keep) (first | (go_at_call 16; refine (clusters_any _).mono ?_; rintro e w' ⟨rfl, rfl⟩))
  go_wp2
  go_ret
  exact ⟨rfl, 1, rfl⟩
end Go.Proofs.Ybulkbmoi
