/-
  slices.Concat of some names and none.
-/
import Derived.Test.YbulkbmowDoorSp
import Derived.Test.YbulkbmowDoorLw
namespace Go.Proofs.YbulkbmowDoor
open Go.RowKit Go

set_option maxRecDepth 100000 in
set_option maxHeartbeats 1000000 in
theorem grow_some (w : World) (n : Nat) (h0 : 0 < n) (hn : n ≤ 100) : Calls Ybad.prog 63 #[.slice none 0 0, .int .i64 n] w fun e w' => ∃ v, e = .returned v ∧ w'.ownsRow w.heap.size 9 1 v 0 [] ∧ Below w.heap.size w w' := by
  obtain ⟨i9, hi9, hz9, hs9, hb9⟩ := info_parts info9
  have hap := fun (W : World) (ty : TypeId) => Lib.run_append_nil_zeros (P := Ybad.prog) W 51 3 ty 9 i9 _ .i64 .i64 Ybad.underlying51 Ybad.underlying3 hi9 hz9 n h0 (by omega) (by omega) (by rw [hb9]; omega)
  have j0 : (0 : Int) < (n : Int) := by omega
  have j1 : ¬ ((n : Int) < 0) := by omega
  have hc1 : ∀ W : World, n ≤ grownCap W n 0 9 := fun W => grownCap_ge W n 0 9
  have hc2 : ∀ W : World, grownCap W n 0 9 ≤ maxLen := fun W => grownCap_le_maxLen W n 0 9 (by unfold maxLen; omega)
  go_enter Ybad.func63, Ybad.ntmps63
  go_wp2_with (at_builtin; refine Lib.wpList_append_run _ rfl _ _ 51 3 rfl _ _ rfl rfl _ _ (hap _ _) ?_)
  go_ret
  have hsz : (Builtin.zeroCells #[Value.string ⟨#[]⟩] n ++ Builtin.zeroCells #[Value.string ⟨#[]⟩] (grownCap w n 0 9 - n)).size = grownCap w n 0 9 * 1 := by
    have := hc1 w
    rw [Array.size_append, size_zeroCells, size_zeroCells]
    simp
    omega
  exact ⟨_, rfl, ⟨rfl, .inr ⟨w.heap.size, grownCap w n 0 9, _, rfl, Nat.le_refl _, heap_alloc_newD w _, Nat.zero_le _, hc2 w, hsz, by simp⟩⟩, ((Below.refl _ w).alloc (Nat.le_refl _) _).drew⟩

theorem append_nothing2 (w : World) (g n cap : Nat) (hc : n ≤ cap) (a : Option Addr) (c : Nat) (ty : TypeId) : (Builtin.append_ #[51, 51] ty #[.slice (some ⟨g, 0, none⟩) n cap, .slice a 0 c]).run Ybad.prog w = .ok (.slice (some ⟨g, 0, none⟩) n cap) w := by
  obtain ⟨i9, hi9, hz9, hs9, hb9⟩ := info_parts info9
  have hf : (Builtin.firstCells i9.size 0 (.slice a 0 c)).run Ybad.prog w = .ok #[] w := by
    cases a with
    | none => simp [Builtin.firstCells]
    | some x => exact run_firstCells_some w i9.size 0 x 0 c [] (by simp) (by simp)
  simp [Builtin.append_, run_underlying Ybad.underlying51, sizeOf, typeInfo, hi9, Builtin.lenOf, hf, hc, storeCells]

set_option maxRecDepth 100000 in
set_option maxHeartbeats 1000000 in
theorem concat_some (g : Nat) (sv : Value) (names : List ByteArray) (hp : 0 < names.length) (hl : names.length ≤ 100) (a2 : Option Addr) (c2 : Nat) (w : World) (hs : Scope w sv names) (hg : w.heap[g]? = some (.cells #[sv, .slice a2 0 c2] 51 (0, 0))) :
    Calls Ybad.prog 55 #[.slice (some ⟨g, 0, none⟩) 2 2] w fun e w' => ∃ v', e = .returned v' ∧ Scope w' v' names ∧ Below w.heap.size w w' := by
  obtain ⟨i9, hi9, hz9, hs9, hb9⟩ := info_parts info9
  obtain ⟨a, c, rfl, h2⟩ := hs
  obtain ⟨g0, cur, rfl, h4, h5⟩ := h2 hp
  have c0 := cell_row (j := 0) hg rfl
  have c1 := cell_row (j := 1) hg rfl
  have hgl : g < w.heap.size := (Array.getElem?_eq_some_iff.1 hg).1
  have hg0 : g0 < w.heap.size := (Array.getElem?_eq_some_iff.1 h4).1
  have HN : Hid (∀ W, Below w.heap.size w W → ∀ j u, (names.map Value.string)[j]? = some u → W.cell? ((⟨g0, 0, none⟩ : Addr).add j) = some u) := fun W hW j u hu => by
    rw [List.getElem?_map] at hu
    obtain ⟨x, hx, rfl⟩ := Option.map_eq_some_iff.1 hu
    obtain ⟨hj, rfl⟩ := List.getElem?_eq_some_iff.1 hx
    have hadd : (⟨g0, 0, none⟩ : Addr).add j = ⟨g0, j, none⟩ := by unfold Addr.add; split <;> simp_all
    rw [hadd, hW.cell (p := ⟨g0, j, none⟩) hg0]
    exact cell_row h4 (h5 j hj)
  have HO : Hid (∀ u ∈ names.map Value.string, u.oneCell' = true) := fun u hu => by
    rw [List.mem_map] at hu
    obtain ⟨x, _, rfl⟩ := hu
    rfl
  have HL : Hid ((names.map Value.string).length = names.length * 1) := by show _ = _; simp
  have HSC : Hid (∀ (T : Nat) (W : World) (v : Value), W.ownsRow T 9 1 v names.length (names.map Value.string) → Scope W v names) := fun T W v h => strs_row h
  clear hg h4 h5 h2
  generalize names.map Value.string = news at *
  generalize hnn : names.length = n at *
  go_enter Ybad.func55, Ybad.ntmps55
  go_wp2_with fail
  go_loopw [3, 11] (fun s i wr => ∃ j : Nat, j ≤ 2 ∧ i = .int .i64 j ∧ s = .int .i64 (if j = 0 then 0 else n : Nat) ∧ wr = w) (fun _ i _ => 2 - (intOf i).toNat)
  case atStart => exact ⟨0, by omega, rfl, rfl, rfl⟩
  case round =>
    obtain ⟨j, hj, rfl, rfl, hwr⟩ := hrel
    obtain rfl : w = wr := hwr.symm
    have n0 : ¬ ((n : Int) < 0) := by omega
    have n1 : (n : Int) ≤ 9223372036854775807 := by omega
    rcases (by omega : j = 0 ∨ j = 1 ∨ j = 2) with rfl | rfl | rfl
    · go_wp2_with fail
      go_roundw
      case rel => exact ⟨1, by omega, by go_num, by simp, by first | rfl | trivial⟩
      case measure => simp [intOf]
    · go_wp2_with fail
      go_roundw
      case rel => exact ⟨2, by omega, by go_num, by simp, by first | rfl | trivial⟩
      case measure => simp [intOf]
    · go_wp2_with fail
      refine (grow_some w n hp hl).mono ?_
      rintro e w1 ⟨v, rfl, hown, hb⟩
      have HO1 : Hid (w1.ownsRow w.heap.size 9 1 v 0 [] ∧ Below w.heap.size w w1) := ⟨hown, hb⟩
      clear hown hb
      go_wp2_with fail
      go_loopw [6, 27] (fun s i wr => ∃ j : Nat, j ≤ 2 ∧ i = .int .i64 j ∧ wr.ownsRow w.heap.size 9 1 s (if j = 0 then 0 else n) (if j = 0 then [] else news) ∧ Below w.heap.size w wr) (fun _ i _ => 2 - (intOf i).toNat)
      case atStart => exact ⟨0, by omega, rfl, HO1.out.1, HO1.out.2⟩
      case round =>
        obtain ⟨j, hj, rfl, hown, hb⟩ := hrel
        clear HO1
        have x0 := (hb.cell (p := ⟨g, 0, none⟩) hgl).trans c0
        have x1 := (hb.cell (p := ⟨g, 1, none⟩) hgl).trans c1
        have hbz := hb.size
        rcases (by omega : j = 0 ∨ j = 1 ∨ j = 2) with rfl | rfl | rfl
        · have hown0 : wr.ownsRow w.heap.size 9 1 u6 0 [] := hown
          have HN0 := HN.out wr hb
          have q3 : 0 + n ≤ maxLen := by unfold maxLen; omega
          have q4 : (0 + n) * 16 ≤ 140737488355328 := by omega
          have HB : Hid (Below w.heap.size w wr) := hb
          clear hown
          go_wp2_with (at_builtin; refine wpList_append_lies _ rfl _ _ 51 rfl w.heap.size 9 i9 _ 1 16 Ybad.underlying51 hi9 hz9 hs9 hb9 rfl (by decide) _ 0 _ rfl hown0 _ n c news rfl HL.out HN0 HO.out hp q3 q4 hbz _ rfl ?_)
          intro g5 cap5 w5 hown5 hgrow5 hat5 hlt5
          have hb5 := HB.out.grown hgrow5 hbz (fun k hk => (hown0.lt k hk).1)
          go_wp2_with fail
          go_roundw
          case rel => exact ⟨1, by omega, by go_num, by simpa using hown5, hb5⟩
          case measure => simp [intOf]
        · have hown1 : wr.ownsRow w.heap.size 9 1 u6 n news := hown
          obtain ⟨_, ⟨_, hno⟩ | ⟨g5, cap5, cur5, rfl, _, _, hcap, _⟩⟩ := id hown1
          · omega
          have hap := fun (W : World) (ty : TypeId) => append_nothing2 W g5 n cap5 hcap a2 c2 ty
          have HOW : Hid (wr.ownsRow w.heap.size 9 1 (.slice (some ⟨g5, 0, none⟩) n cap5) n news) := hown1
          clear hown hown1
          go_wp2_with (at_builtin; refine Lib.wpList_append_run wr rfl _ _ 51 51 rfl _ _ rfl rfl _ _ (hap wr _) ?_)
          go_roundw
          case rel => exact ⟨2, by omega, by go_num, by simpa using HOW.out, hb⟩
          case measure => simp [intOf]
        · have hown2 : wr.ownsRow w.heap.size 9 1 u6 n news := hown
          have hsc := HSC.out _ _ _ hown2
          clear hown hown2
          go_wp2_with fail
          go_ret
          exact ⟨_, rfl, hsc, hb⟩

theorem cat_some (names : List ByteArray) (hl : names.length ≤ 100) : Cat names := by
  by_cases hp : 0 < names.length
  · intro w g sv a2 c2 hs hg
    exact concat_some g sv names hp hl a2 c2 w hs hg
  · obtain rfl : names = [] := List.eq_nil_of_length_eq_zero (by omega)
    exact cat_none
end Go.Proofs.YbulkbmowDoor
