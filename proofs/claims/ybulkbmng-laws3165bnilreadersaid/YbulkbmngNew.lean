import Derived.Test.YbulkbmngProg
import Derived.WalkKit
import Derived.WalkSpells
import Derived.WalkLawsBesides
import Derived.Deep.QuietTactic
import Derived.BigQuiet
import Derived.Deep.DeepFit
namespace Go.Proofs.Ybulkbmng
open Go.RowKit Go

theorem info5' : (Yba.prog.info? 5).map (fun i => (i.zero, i.size, i.bytes)) = some (some (.int .u8 0), 1, 1) := by kernel_rfl

theorem ta_no (a : Addr) (w : World) : (Instr.typeAssert (.iface 45 (.pointer (some a))) 39 44 true).run Yba.prog w = .ok (.tuple #[.pointer none, .bool false]) w := by kernel_rfl
theorem ta_yes (a : Addr) (w : World) : (Instr.typeAssert (.iface 44 (.pointer (some a))) 39 44 true).run Yba.prog w = .ok (.tuple #[.pointer (some a), .bool true]) w := by kernel_rfl

theorem made : ∃ C, ∀ w, (Instr.makeSlice 22 (.int .i64 65536) (.int .i64 65536)).run Yba.prog w = .ok (.slice (some ⟨w.heap.size, 0, none⟩) 65536 65536) (w.alloc (.cells C 5)) := by
  obtain ⟨i0, hi, hz0, hz1, hz2⟩ := info_parts info5'
  refine ⟨madeCells #[.int .u8 0] 65536, fun w => ?_⟩
  have h := run_make (P := Yba.prog) w 22 5 i0 (.int .u8 0) Yba.underlying22 hi hz0 .i64 .i64 65536 65536 (by omega) (by omega) (by rw [hz2]; omega) (by omega)
  rw [hz1] at h
  exact h

def Made (C : Array Value) : Prop := ∀ w, (Instr.makeSlice 22 (.int .i64 65536) (.int .i64 65536)).run Yba.prog w = .ok (.slice (some ⟨w.heap.size, 0, none⟩) 65536 65536) (w.alloc (.cells C 5))

theorem newReaderSize (C : Array Value) (hmk0 : Made C) (a : Addr) (w : World) :
    Calls Yba.prog 14 #[.iface 45 (.pointer (some a)), .int .i64 65536] w fun e w' => e = .returned (.pointer (some ⟨w.heap.size, 0, none⟩)) ∧
      w' = (w.alloc (.cells #[.slice (some ⟨w.heap.size + 1, 0, none⟩) 65536 65536, .iface 45 (.pointer (some a)), .int .i64 0, .int .i64 0, .nilIface, .int .i64 (-1), .int .i64 (-1)] 69)).alloc (.cells C 5) := by
  have hmk := hmk0
  unfold Made at hmk
  have t1 := ta_no
  go_enter Yba.func14, Yba.ntmps14
  go_wp2
  go_end0
  go_wp2
  go_ret
  exact ⟨rfl, rfl⟩

theorem csvNew (g b : Nat) (w : World) (hc : w.cell? ⟨g, 0, none⟩ = some (.slice (some ⟨b, 0, none⟩) 65536 65536)) :
    Calls Yba.prog 15 #[.iface 44 (.pointer (some ⟨g, 0, none⟩))] w fun e w' => e = .returned (.pointer (some ⟨w.heap.size, 0, none⟩)) ∧
      w' = w.alloc (.cells #[.int .i32 44, .int .i32 0, .int .i64 0, .bool false, .bool false, .bool false, .bool false, .pointer (some ⟨g, 0, none⟩), .int .i64 0, .int .i64 0, .slice none 0 0, .slice none 0 0, .slice none 0 0, .slice none 0 0, .slice none 0 0] 65) := by
  have t1 := ta_yes
  go_enter Yba.func15, Yba.ntmps15
  go_wp2
  go_ret
  exact ⟨rfl, rfl⟩

/-- The world behind NewRecordReader: six new blocks. -/
def built (C : Array Value) (r : Value) (start : Int) (w : World) : World :=
  (((((w.alloc (.cells #[r, .bool false, .nilIface, .int .u8 0] 43)).alloc
    (.cells #[.iface 46 (.pointer (some ⟨w.heap.size, 0, none⟩)), .int .i64 start, .int .i64 (-1)] 59)).alloc
    (.cells #[.slice (some ⟨w.heap.size + 3, 0, none⟩) 65536 65536, .iface 45 (.pointer (some ⟨w.heap.size + 1, 0, none⟩)), .int .i64 0, .int .i64 0, .nilIface, .int .i64 (-1), .int .i64 (-1)] 69)).alloc (.cells C 5)).alloc
    (.cells #[.int .i32 44, .int .i32 0, .int .i64 (-1), .bool false, .bool false, .bool false, .bool false, .pointer (some ⟨w.heap.size + 2, 0, none⟩), .int .i64 0, .int .i64 0, .slice none 0 0, .slice none 0 0, .slice none 0 0, .slice none 0 0, .slice none 0 0] 65)).alloc
    (.cells #[.int .i64 0, .bool false, .pointer (some ⟨w.heap.size + 2, 0, none⟩), .pointer (some ⟨w.heap.size + 1, 0, none⟩), .pointer (some ⟨w.heap.size, 0, none⟩), .pointer (some ⟨w.heap.size + 4, 0, none⟩), .int .i64 0, .int .i64 0, .int .i64 0, .slice none 0 0, .int .i64 start, .int .i64 0, .nilIface] 52)

theorem newRecord (C : Array Value) (hmk : Made C) (r : Value) (start : Int) (w : World) (hr : r = .nilIface ∨ ∃ p, r = .iface 32 (.pointer (some p))) :
    Calls Yba.prog 11 #[r, .int .i64 start] w fun e w' => e = .returned (.pointer (some ⟨w.heap.size + 5, 0, none⟩)) ∧ w' = built C r start w := by
  rcases hr with rfl | ⟨p, rfl⟩
  · go_enter Yba.func11, Yba.ntmps11
    go_wp2_with (go_at_call 14; refine (newReaderSize C hmk _ _).mono ?_; rintro e w1 ⟨rfl, rfl⟩)
    refine (csvNew (w.heap.size + 1 + 1) (w.heap.size + 1 + 1 + 1) _ ?hc).mono ?_
    case hc => go_simp
    rintro e w1 ⟨rfl, rfl⟩
    go_wp2_with fail
    go_ret
    exact ⟨rfl, rfl⟩
  · go_enter Yba.func11, Yba.ntmps11
    go_wp2_with (go_at_call 14; refine (newReaderSize C hmk _ _).mono ?_; rintro e w1 ⟨rfl, rfl⟩)
    refine (csvNew (w.heap.size + 1 + 1) (w.heap.size + 1 + 1 + 1) _ ?hc).mono ?_
    case hc => go_simp
    rintro e w1 ⟨rfl, rfl⟩
    go_wp2_with fail
    go_ret
    exact ⟨rfl, rfl⟩

end Go.Proofs.Ybulkbmng
