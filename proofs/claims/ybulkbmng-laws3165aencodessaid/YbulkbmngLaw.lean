import Derived.Test.YbulkbmngEnc
namespace Go.Proofs.Ybulkbmng
open Go.RowKit Go

theorem enc_big (a0 : Option Addr) (len0 cap0 : Nat) (a1 : Option Addr) (len1 cap1 : Nat) (w : World) (h0 : len0 ≤ 9223372036854775807) (h1 : len1 ≤ 9223372036854775807) (h : 1024 < len0 ∨ 1024 < len1) :
    Calls Yba.prog 3 #[.slice a0 len0 cap0, .slice a1 len1 cap1] w fun e w' => e = .returned (.bool true) ∧ w' = w := by
  by_cases g : 1024 < len0
  · go_enter Yba.func3, Yba.ntmps3
    go_wp2
    go_ret
    exact ⟨rfl, rfl⟩
  · have g1 : 1024 < len1 := by omega
    go_enter Yba.func3, Yba.ntmps3
    go_wp2
    go_ret
    exact ⟨rfl, rfl⟩

theorem getD_left (l m : List Int) (k : Nat) (h : k < l.length) : (l ++ m).getD k 0 = l.getD k 0 := by
  simp only [List.getD]; rw [List.getElem?_append_left h]
theorem getD_right (l m : List Int) (k : Nat) (h : l.length ≤ k) : (l ++ m).getD k 0 = m.getD (k - l.length) 0 := by
  simp only [List.getD]; rw [List.getElem?_append_right h]
theorem getD_take (l : List Int) (n k : Nat) (h : k < n) : (l.take n).getD k 0 = l.getD k 0 := by
  simp only [List.getD]; rw [List.getElem?_take_of_lt h]

theorem le8_length (v : Int) : (le8 v).length = 8 := rfl

theorem flat_length (ys : List Int) : (flat ys).length = 8 * ys.length := by
  induction ys with
  | nil => rfl
  | cons y ys ih => unfold flat at ih ⊢; rw [List.flatMap_cons, List.length_append, ih, le8_length]; simp; omega

theorem flat_at (ys : List Int) : ∀ (i j : Nat), i < ys.length → j < 8 → (flat ys).getD (8 * i + j) 0 = (le8 (IntKind.u64.wrap (ys.getD i 0))).getD j 0 := by
  induction ys with
  | nil => intro i j h; simp at h
  | cons y ys ih =>
    intro i j hi hj
    have e : flat (y :: ys) = le8 (IntKind.u64.wrap y) ++ flat ys := by unfold flat; rw [List.flatMap_cons]
    rw [e]
    cases i with
    | zero =>
      rw [getD_left _ _ _ (by rw [le8_length]; omega)]
      simp
    | succ i =>
      rw [getD_right _ _ _ (by rw [le8_length]; omega), le8_length]
      have h8 : 8 * (i + 1) + j - 8 = 8 * i + j := by omega
      rw [h8, ih i j (by simpa using hi) hj]
      simp

theorem r_head (z0 z1 : List Int) (len0 : Nat) (k : Nat) (hk : k < len0) (hl : len0 ≤ z0.length) : (z0.take len0 ++ flat z1).getD k 0 = z0.getD k 0 := by
  rw [getD_left _ _ _ (by simp; omega)]
  exact getD_take _ _ _ hk

theorem r_tail (z0 z1 : List Int) (len0 : Nat) (i j : Nat) (hi : i < z1.length) (hj : j < 8) (hl : len0 ≤ z0.length) : (z0.take len0 ++ flat z1).getD (len0 + 8 * i + j) 0 = (le8 (IntKind.u64.wrap (z1.getD i 0))).getD j 0 := by
  have hll : (z0.take len0).length = len0 := by simp; omega
  rw [getD_right _ _ _ (by omega), hll, show len0 + 8 * i + j - len0 = 8 * i + j by omega, flat_at z1 i j hi hj]

theorem top_byte (z : Int) : IntKind.u64.wrap z / 72057594037927936 = IntKind.u64.wrap z / 72057594037927936 % 256 := by
  have := u64_bd z; omega

set_option maxHeartbeats 1000000 in
set_option maxRecDepth 100000 in
theorem enc_walk (a0 : Option Addr) (len0 cap0 : Nat) (z0 : List Int) (a1 : Option Addr) (len1 cap1 : Nat) (z1 : List Int) (w : World) (w0 : Row .u8 w a0 len0 cap0 z0) (w1 : Row .i64 w a1 len1 cap1 z1) (h0 : len0 ≤ 1024) (h1 : len1 ≤ 1024) :
    Calls Yba.prog 3 #[.slice a0 len0 cap0, .slice a1 len1 cap1] w fun e w' => e = .returned (.bool true) ∧ Below w.heap.size w w' := by
  go_enter Yba.func3, Yba.ntmps3
  go_wp2_with fail
  refine (cloneb a0 len0 cap0 z0 w w0 h0).mono ?_
  rintro e x1 ⟨v1, rfl, ho1, hb1⟩
  go_wp2_with fail
  refine (clonev a1 len1 cap1 z1 x1 (row_below w1 hb1) h1).mono ?_
  rintro e x2 ⟨v2, rfl, ho2, hb2⟩
  have ho1' := owns_below ho1 hb2 (Nat.le_refl _)
  have ho2' := owns_base ho2 hb1.size
  have hne : ∀ g, v2.ownBlock = some g → v1.ownBlock ≠ some g := by
    intro g e1 e2
    have := (ho2.lt g e1).1
    have := (ho1.lt g e2).2
    omega
  have hb12 := hb1.trans (hb2.mono hb1.size)
  clear ho1 ho2 hb1 hb2
  go_wp2_with fail
  refine (appendAny w.heap.size len0 len1 v1 v2 _ _ x2 ho1' hb12.size h0 h1 ho2' hne).mono ?_
  rintro e x3 ⟨v3, rfl, ho3, ho4, hb3⟩
  have hb := hb12.trans hb3
  clear hb12 hb3 hne ho1' ho2'
  obtain ⟨ao3, cap3, rfl, hs3⟩ := owns_shape ho3
  obtain ⟨ao2, cap2, rfl, hs2⟩ := owns_shape ho4
  rw [← List.map_append] at ho3
  have hw0 := row_shape (row_below w0 hb)
  have hw1 := row_shape (row_below w1 hb)
  obtain ⟨hlc0, hlz0, hsh0⟩ := hw0
  obtain ⟨hlc1, hlz1, hsh1⟩ := hw1
  have HB : Hid (Below w.heap.size w x3) := hb
  have HS : Hid (∀ nq, Below w.heap.size w (x3.drewN nq)) := fun nq => ⟨hb.os, hb.tape, hb.output, hb.size, hb.block⟩
  clear hb w0 w1
  go_wp2_with fail
  go_loopw [8] (fun i wr => ∃ k nq : Nat, k ≤ len0 ∧ i = .int .i64 k ∧ wr = x3.drewN nq) (fun i _ => len0 - (intOf i).toNat)
  case atStart => exact ⟨0, 0, Nat.zero_le _, rfl, rfl⟩
  case round =>
    obtain ⟨k, nq, hk, rfl, rfl⟩ := hrel
    by_cases hlt : k < len0
    · obtain ⟨b, off, rfl, hc0⟩ := hsh0 (by omega)
      obtain ⟨g, rfl⟩ := hs3 (by omega)
      have c1 := hc0 k hlt
      have c2 := ownsRow_cell ho3 k (by omega)
      rw [r_head z0 _ len0 k hlt (by omega)] at c2
      go_wp2_with fail
      go_quiet (fail)
      go_wp2
      go_roundw
      case rel => exact ⟨k + 1, _, by omega, by go_num, rfl⟩
      case measure => simp [intOf]; omega
    · go_wp2_with fail
      go_loop [9] (fun i => ∃ k : Nat, k ≤ len1 ∧ i = .int .i64 k) (fun i => len1 - (intOf i).toNat)
      case atStart => exact ⟨0, Nat.zero_le _, rfl⟩
      case round =>
        obtain ⟨i, hi, rfl⟩ := hrel
        by_cases hlt1 : i < len1
        · obtain ⟨b, off, rfl, hc1⟩ := hsh1 (by omega)
          obtain ⟨g, rfl⟩ := hs3 (by omega)
          have c1 := hc1 i hlt1
          go_wp2_with fail
          go_loop [11] (fun i => ∃ k : Nat, k ≤ 8 ∧ i = .int .i64 k) (fun i => 8 - (intOf i).toNat)
          case atStart => exact ⟨0, Nat.zero_le _, rfl⟩
          case round =>
            obtain ⟨j, hj, rfl⟩ := hrel
            by_cases hlt2 : j < 8
            · have c2 := ownsRow_cell ho3 (len0 + 8 * i + j) (by omega)
              rw [r_tail z0 _ len0 i j (by simp; omega) hlt2 (by omega), getD_take _ _ _ hlt1] at c2
              have hub := u64_bd (z1.getD i 0)
              have e7 := top_byte (z1.getD i 0)
              have hjj : j = 0 ∨ j = 1 ∨ j = 2 ∨ j = 3 ∨ j = 4 ∨ j = 5 ∨ j = 6 ∨ j = 7 := by omega
              rcases hjj with rfl | rfl | rfl | rfl | rfl | rfl | rfl | rfl
              all_goals simp only [le8, List.getD_cons_zero, List.getD_cons_succ] at c2
              all_goals try rw [Nat.add_zero] at c2
              all_goals try rw [e7] at c2
              all_goals clear e7
              all_goals go_wp2_with fail
              all_goals go_round
              all_goals first | (case rel => exact ⟨_ + 1, by omega, rfl⟩) | (case measure => simp [intOf])
            · go_wp2
              go_round
              case rel => exact ⟨i + 1, by omega, by go_num⟩
              case measure => simp [intOf]; omega
        · go_wp2_with fail
          go_loopw [12] (fun i wr => ∃ k nq : Nat, k ≤ len1 ∧ i = .int .i64 k ∧ wr = x3.drewN nq) (fun i _ => len1 - (intOf i).toNat)
          case atStart => exact ⟨0, _, Nat.zero_le _, rfl, rfl⟩
          case round =>
            obtain ⟨j, nr, hj, rfl, rfl⟩ := hrel
            by_cases hlt2 : j < len1
            · obtain ⟨b, off, rfl, hc1⟩ := hsh1 (by omega)
              obtain ⟨g, rfl⟩ := hs2 (by omega)
              have c1 := hc1 j hlt2
              have c2 := ownsRow_cell ho4 j (by omega)
              rw [getD_take _ _ _ hlt2] at c2
              go_wp2_with fail
              go_quiet (fail)
              go_wp2
              go_roundw
              case rel => exact ⟨j + 1, _, by omega, by go_num, rfl⟩
              case measure => simp [intOf]; omega
            · go_wp2
              go_ret
              exact ⟨rfl, HS.out _⟩
end Go.Proofs.Ybulkbmng
