import Derived.Test.YbulkbmngNew
import Derived.LaidEql
namespace Go.Proofs.Ybulkbmng
open Go.RowKit Go

/-- What zzs3165bshape reads: the cells that NewRecordReader has laid, the record at block R, its fellows at F, S, B, C. -/
structure Shape (w : World) (R F S B K : Nat) (start : Int) : Prop where
  r0 : w.cell? ⟨R, 0, none⟩ = some (.int .i64 0)
  r1 : w.cell? ⟨R, 1, none⟩ = some (.bool false)
  r2 : w.cell? ⟨R, 2, none⟩ = some (.pointer (some ⟨B, 0, none⟩))
  r3 : w.cell? ⟨R, 3, none⟩ = some (.pointer (some ⟨S, 0, none⟩))
  r4 : w.cell? ⟨R, 4, none⟩ = some (.pointer (some ⟨F, 0, none⟩))
  r5 : w.cell? ⟨R, 5, none⟩ = some (.pointer (some ⟨K, 0, none⟩))
  r6 : w.cell? ⟨R, 6, none⟩ = some (.int .i64 0)
  r7 : w.cell? ⟨R, 7, none⟩ = some (.int .i64 0)
  r8 : w.cell? ⟨R, 8, none⟩ = some (.int .i64 0)
  r9 : w.cell? ⟨R, 9, none⟩ = some (.slice none 0 0)
  r10 : w.cell? ⟨R, 10, none⟩ = some (.int .i64 start)
  r11 : w.cell? ⟨R, 11, none⟩ = some (.int .i64 0)
  r12 : w.cell? ⟨R, 12, none⟩ = some .nilIface
  s0 : w.cell? ⟨S, 0, none⟩ = some (.iface 46 (.pointer (some ⟨F, 0, none⟩)))
  s1 : w.cell? ⟨S, 1, none⟩ = some (.int .i64 start)
  s2 : w.cell? ⟨S, 2, none⟩ = some (.int .i64 (-1))
  f1 : w.cell? ⟨F, 1, none⟩ = some (.bool false)
  f2 : w.cell? ⟨F, 2, none⟩ = some .nilIface
  f3 : w.cell? ⟨F, 3, none⟩ = some (.int .u8 0)
  k0 : w.cell? ⟨K, 0, none⟩ = some (.int .i32 44)
  k2 : w.cell? ⟨K, 2, none⟩ = some (.int .i64 (-1))
  b0 : ∃ g, w.cell? ⟨B, 0, none⟩ = some (.slice (some ⟨g, 0, none⟩) 65536 65536)
  b2 : w.cell? ⟨B, 2, none⟩ = some (.int .i64 0)
  b3 : w.cell? ⟨B, 3, none⟩ = some (.int .i64 0)

theorem neq_same {P : Program} {ti tp te : TypeId} {ms : Array (String × TypeId)} {i j : TypeInfo} (a : Addr) (hi : P.underlying ti = some (.interface ms)) (hp : P.underlying tp = some (.pointer te)) (hinfo : P.info? tp = some i) (hcomp : i.comparable = true) (hte : P.info? te = some j) (w : World) :
    (binOp .neq ti (.iface tp (.pointer (some a))) (.iface tp (.pointer (some a)))).run P w = .ok (.bool false) w := by
  simp only [binOp]
  simp [Op.equal, Op.maxDepth, run_equalIn_iface_ptr_same w 9998 a hi hp hinfo hcomp hte]

theorem infos {P : Program} {t : TypeId} {c : Bool} (h : (P.info? t).map (fun i => i.comparable) = some c) : ∃ i, P.info? t = some i ∧ i.comparable = c := by
  obtain ⟨i, hi, hc⟩ := Option.map_eq_some_iff.1 h
  exact ⟨i, hi, hc⟩

theorem neq46 (a : Addr) (w : World) : (binOp .neq 39 (.iface 46 (.pointer (some a))) (.iface 46 (.pointer (some a)))).run Yba.prog w = .ok (.bool false) w := by
  obtain ⟨i, hi, hc⟩ := infos (P := Yba.prog) (t := 46) (c := true) (by kernel_rfl)
  obtain ⟨j, hj, _⟩ := infos (P := Yba.prog) (t := 43) (c := true) (by kernel_rfl)
  exact neq_same a Yba.underlying39 Yba.underlying46 hi hc hj w
theorem neq32 (a : Addr) (w : World) : (binOp .neq 39 (.iface 32 (.pointer (some a))) (.iface 32 (.pointer (some a)))).run Yba.prog w = .ok (.bool false) w := by
  obtain ⟨i, hi, hc⟩ := infos (P := Yba.prog) (t := 32) (c := true) (by kernel_rfl)
  obtain ⟨j, hj, _⟩ := infos (P := Yba.prog) (t := 34) (c := false) (by kernel_rfl)
  exact neq_same a Yba.underlying39 Yba.underlying32 hi hc hj w

theorem size_any (B g : Nat) (w : World) (b0 : w.cell? ⟨B, 0, none⟩ = some (.slice (some ⟨g, 0, none⟩) 65536 65536)) :
    Calls Yba.prog 16 #[.pointer (some ⟨B, 0, none⟩)] w fun e w' => e = .returned (.int .i64 65536) ∧ w = w' := by
  go_enter Yba.func16, Yba.ntmps16
  go_wp2
  go_ret
  exact ⟨rfl, rfl⟩

theorem buffered_any (B : Nat) (w : World) (b2 : w.cell? ⟨B, 2, none⟩ = some (.int .i64 0)) (b3 : w.cell? ⟨B, 3, none⟩ = some (.int .i64 0)) :
    Calls Yba.prog 17 #[.pointer (some ⟨B, 0, none⟩)] w fun e w' => e = .returned (.int .i64 0) ∧ ∃ n, w' = w.drewN n := by
  go_enter Yba.func17, Yba.ntmps17
  go_wp2
  go_quiet (fail)
  go_wp2
  go_ret
  exact ⟨rfl, _, rfl⟩

set_option maxHeartbeats 1000000 in
set_option maxRecDepth 100000 in
theorem shape_true (w : World) (R F S B K : Nat) (start : Int) (h : Shape w R F S B K start) :
    Calls Yba.prog 12 #[.pointer (some ⟨R, 0, none⟩), .int .i64 start] w fun e w' => e = .returned (.bool true) ∧ ∃ n, w' = w.drewN n := by
  obtain ⟨r0, r1, r2, r3, r4, r5, r6, r7, r8, r9, r10, r11, r12, s0, s1, s2, f1, f2, f3, k0, k2, ⟨g, b0⟩, b2, b3⟩ := h
  have n46 := neq46
  have ns := fun w => run_neq_slice_nil_any (P := Yba.prog) w 48 _ none 0 0 0 0 Yba.underlying48
  go_enter Yba.func12, Yba.ntmps12
  go_wp2_with fail
  go_quiet (fail)
  go_wp2_with fail
  refine (size_any B g _ (by simpa using b0)).mono ?_
  rintro e w1 ⟨rfl, rfl⟩
  go_wp2_with fail
  refine (buffered_any B _ (by simpa using b2) (by simpa using b3)).mono ?_
  rintro e w1 ⟨rfl, n2, rfl⟩
  go_wp2_with fail
  go_ret
  exact ⟨rfl, _, rfl⟩

theorem built_shape (C : Array Value) (r : Value) (start : Int) (w : World) : Shape (built C r start w) (w.heap.size + 1 + 1 + 1 + 1 + 1) w.heap.size (w.heap.size + 1) (w.heap.size + 1 + 1) (w.heap.size + 1 + 1 + 1 + 1) start := by
  unfold built
  constructor
  case b0 => exact ⟨w.heap.size + 3, by go_simp⟩
  all_goals go_simp

theorem built_final (C : Array Value) (r : Value) (start : Int) (w : World) : (built C r start w).cell? ⟨w.heap.size, 0, none⟩ = some r ∧ (built C r start w).cell? ⟨w.heap.size + 1 + 1 + 1 + 1 + 1, 4, none⟩ = some (.pointer (some ⟨w.heap.size, 0, none⟩)) := by
  unfold built
  constructor <;> go_simp

theorem built_grown (C : Array Value) (r : Value) (start : Int) (w : World) : Grown w (built C r start w) := by
  unfold built
  repeat (first | exact Grown.refl _ | apply Grown.alloc)

theorem built_below (C : Array Value) (r : Value) (start : Int) (w : World) : Below w.heap.size w (built C r start w) := by
  unfold built
  exact ((((((Below.refl _ _).alloc (Nat.le_refl _) _).alloc (by simp) _).alloc (by simp; omega) _).alloc (by simp; omega) _).alloc (by simp; omega) _).alloc (by simp; omega) _
end Go.Proofs.Ybulkbmng
