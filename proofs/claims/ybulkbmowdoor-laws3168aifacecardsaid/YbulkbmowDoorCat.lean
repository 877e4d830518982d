/-
  slices.Concat of two slices that hold nothing.
-/
import Derived.Test.YbulkbmowDoorPn
import Derived.Lib.AppendZeros
import Derived.Lib.AppendZerosOnto
namespace Go.Proofs.YbulkbmowDoor
open Go.RowKit Go

set_option maxRecDepth 100000 in
set_option maxHeartbeats 1000000 in
theorem grow_zero (w : World) : Calls Ybad.prog 63 #[.slice none 0 0, .int .i64 0] w fun e w' => e = .returned (.slice none 0 0) ∧ w = w' := by
  go_enter Ybad.func63, Ybad.ntmps63
  go_wp2_with fail
  go_ret
  exact ⟨rfl, rfl⟩

theorem append_nothing (w : World) (a : Option Addr) (c : Nat) (ty : TypeId) : (Builtin.append_ #[51, 51] ty #[.slice none 0 0, .slice a 0 c]).run Ybad.prog w = .ok (.slice none 0 0) w := by
  obtain ⟨i9, hi9, hz9, hs9, hb9⟩ := info_parts info9
  have hf : (Builtin.firstCells i9.size 0 (.slice a 0 c)).run Ybad.prog w = .ok #[] w := by
    cases a with
    | none => simp [Builtin.firstCells]
    | some x => exact run_firstCells_some w i9.size 0 x 0 c [] (by simp) (by simp)
  simp [Builtin.append_, run_underlying Ybad.underlying51, sizeOf, typeInfo, hi9, Builtin.lenOf, hf]

set_option maxRecDepth 100000 in
set_option maxHeartbeats 1000000 in
theorem concat_none (g : Nat) (a1 a2 : Option Addr) (c1 c2 : Nat) (w : World) (h0 : w.cell? ⟨g, 0, none⟩ = some (.slice a1 0 c1)) (h1 : w.cell? ⟨g, 1, none⟩ = some (.slice a2 0 c2)) :
    Calls Ybad.prog 55 #[.slice (some ⟨g, 0, none⟩) 2 2] w fun e w' => e = .returned (.slice none 0 0) ∧ w = w' := by
  have hap1 : ∀ W ty, (Builtin.append_ #[51, 51] ty #[.slice none 0 0, .slice a1 0 c1]).run Ybad.prog W = .ok (.slice none 0 0) W := fun W ty => append_nothing W a1 c1 ty
  have hap2 : ∀ W ty, (Builtin.append_ #[51, 51] ty #[.slice none 0 0, .slice a2 0 c2]).run Ybad.prog W = .ok (.slice none 0 0) W := fun W ty => append_nothing W a2 c2 ty
  go_enter Ybad.func55, Ybad.ntmps55
  go_wp2_with fail
  go_loopw [3, 11] (fun s i wr => ∃ j : Nat, j ≤ 2 ∧ i = .int .i64 j ∧ s = .int .i64 0 ∧ wr = w) (fun _ i _ => 2 - (intOf i).toNat)
  case atStart => exact ⟨0, by omega, rfl, rfl, rfl⟩
  case round =>
    obtain ⟨j, hj, rfl, rfl, rfl⟩ := hrel
    rcases (by omega : j = 0 ∨ j = 1 ∨ j = 2) with rfl | rfl | rfl
    · go_wp2_with fail
      go_roundw
      case rel => exact ⟨1, by omega, by go_num, by first | rfl | trivial, by first | rfl | trivial⟩
      case measure => simp [intOf]
    · go_wp2_with fail
      go_roundw
      case rel => exact ⟨2, by omega, by go_num, by first | rfl | trivial, by first | rfl | trivial⟩
      case measure => simp [intOf]
    · go_wp2_with fail
      refine (grow_zero wr).mono ?_
      rintro e w' ⟨rfl, rfl⟩
      go_wp2_with fail
      go_loopw [6, 27] (fun s i wq => ∃ j : Nat, j ≤ 2 ∧ i = .int .i64 j ∧ s = .slice none 0 0 ∧ wq = wr) (fun _ i _ => 2 - (intOf i).toNat)
      case atStart => exact ⟨0, by omega, rfl, rfl, rfl⟩
      case round =>
        obtain ⟨j, hj, rfl, rfl, rfl⟩ := hrel
        rcases (by omega : j = 0 ∨ j = 1 ∨ j = 2) with rfl | rfl | rfl
        · go_wp2_with (at_builtin; refine Lib.wpList_append_run wr rfl _ _ 51 51 rfl _ _ rfl rfl _ _ (hap1 wr _) ?_)
          go_roundw
          case rel => exact ⟨1, by omega, by go_num, by first | rfl | trivial, by first | rfl | trivial⟩
          case measure => simp [intOf]
        · go_wp2_with (at_builtin; refine Lib.wpList_append_run wr rfl _ _ 51 51 rfl _ _ rfl rfl _ _ (hap2 wr _) ?_)
          go_roundw
          case rel => exact ⟨2, by omega, by go_num, by first | rfl | trivial, by first | rfl | trivial⟩
          case measure => simp [intOf]
        · go_wp2_with fail
          go_ret
          exact ⟨rfl, rfl⟩
end Go.Proofs.YbulkbmowDoor
