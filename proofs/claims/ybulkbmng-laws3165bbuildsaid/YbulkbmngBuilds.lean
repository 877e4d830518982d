import Derived.Test.YbulkbmngShape
namespace Go.Proofs.Ybulkbmng
open Go.RowKit Go

theorem nil_walk (a0 : Int) (w : World) :
    Calls Yba.prog 6 #[.int .i64 a0] w fun e w' => e = .returned (.bool true) ∧ Grown w w' := by
  obtain ⟨C, hmk⟩ := made
  go_enter Yba.func6, Yba.ntmps6
  go_wp2_with fail
  refine (newRecord C hmk .nilIface a0 w (.inl rfl)).mono ?_
  rintro e w1 ⟨rfl, hw1⟩
  have hs := built_shape C .nilIface a0 w
  have hf := built_final C .nilIface a0 w
  have hg := built_grown C .nilIface a0 w
  rw [← hw1] at hs hf hg
  clear hw1
  go_wp2_with fail
  refine (shape_true w1 _ _ _ _ _ a0 hs).mono ?_
  rintro e w2 ⟨rfl, n, rfl⟩
  clear hs
  obtain ⟨hf1, hf2⟩ := hf
  go_wp2_with fail
  go_ret
  exact ⟨rfl, hg⟩

theorem build_walk (a0 : Int) (a1 : Option Addr) (len1 cap1 : Nat) (w : World) :
    Calls Yba.prog 5 #[.int .i64 a0, .slice a1 len1 cap1] w fun e w' => e = .returned (.bool true) ∧ Below w.heap.size w w' := by
  obtain ⟨C, hmk⟩ := made
  have n32 := neq32
  go_enter Yba.func5, Yba.ntmps5
  go_wp2_with fail
  have z1 : (w.alloc (.cells #[.slice a1 len1 cap1, .int .i64 0] 34)).cell? ⟨w.heap.size, 1, none⟩ = some (.int .i64 0) := by go_simp
  have zz : w.heap.size < (w.alloc (.cells #[.slice a1 len1 cap1, .int .i64 0] 34)).heap.size := by simp
  have zb : Below w.heap.size w (w.alloc (.cells #[.slice a1 len1 cap1, .int .i64 0] 34)) := (Below.refl _ _).alloc (Nat.le_refl _) _
  generalize w.alloc (.cells #[.slice a1 len1 cap1, .int .i64 0] 34) = W0 at z1 zz zb ⊢
  refine (newRecord C hmk _ a0 W0 (.inr ⟨_, rfl⟩)).mono ?_
  rintro e w1 ⟨rfl, hw1⟩
  have hs := built_shape C (.iface 32 (.pointer (some ⟨w.heap.size, 0, none⟩))) a0 W0
  have hf := built_final C (.iface 32 (.pointer (some ⟨w.heap.size, 0, none⟩))) a0 W0
  have hg := built_below C (.iface 32 (.pointer (some ⟨w.heap.size, 0, none⟩))) a0 W0
  rw [← hw1] at hs hf hg
  clear hw1
  have hz1 : w1.cell? ⟨w.heap.size, 1, none⟩ = some (.int .i64 0) := (hg.cell zz).trans z1
  have hb : ∀ n, Below w.heap.size w (w1.drewN n) := fun n => by
    have h := zb.trans (hg.mono (Nat.le_of_lt zz))
    exact ⟨h.os, h.tape, h.output, h.size, h.block⟩
  clear zb hg z1
  go_wp2_with fail
  refine (shape_true w1 _ _ _ _ _ a0 hs).mono ?_
  rintro e w2 ⟨rfl, n, rfl⟩
  clear hs
  obtain ⟨hf1, hf2⟩ := hf
  go_wp2_with fail
  go_ret
  exact ⟨rfl, hb _⟩
end Go.Proofs.Ybulkbmng
