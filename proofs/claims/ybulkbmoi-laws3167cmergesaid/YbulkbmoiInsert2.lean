/-
  slices.Insert at []clusterSum, one value, no room.
-/
import Derived.Test.YbulkbmoiInsert
import Derived.Laws.NewBlocks
namespace Go.Proofs.Ybulkbmoi
open Go.RowKit Go

theorem grow_cells (X Z vs D : List Value) (n i : Nat) (hX : X.length = i * 3) (hi : i < n) (hv : vs.length = 3) (hd : D.length = (n - i) * 3) :
    (splice (splice (X ++ Z) (i * 3) vs) ((i + 1) * 3) D).take ((n + 1) * 3) = X ++ vs ++ D := by
  have e1 : splice (X ++ Z) (i * 3) vs = X ++ (vs ++ Z.drop 3) := by
    unfold splice
    rw [← hX, List.take_left, hv]
    congr 2
    rw [List.drop_append]
    simp
  rw [e1]
  unfold splice
  have e2 : (i + 1) * 3 = (X ++ vs).length := by simp [hX, hv]; omega
  have e3 : X ++ (vs ++ Z.drop 3) = (X ++ vs) ++ Z.drop 3 := by simp
  rw [e2, e3, List.take_left]
  have e4 : (n + 1) * 3 = (X ++ vs ++ D).length := by simp [hX, hv, hd]; omega
  rw [e4, ← List.append_assoc, List.take_left]

set_option maxRecDepth 100000 in
set_option maxHeartbeats 1000000 in
/-- In the midst, no room. -/
theorem insert_grow (T n g i vb : Nat) (cur : Array Value) (l vs : List Value) (w : World) (hg : w.heap[g]? = some (.cells cur 41 (0, 0))) (hT : T ≤ w.heap.size) (hcs : cur.size = n * 3) (hl : cur.toList.take (n * 3) = l) (hi : i < n) (hn : n ≤ 4096) (hvl : vs.length = 3) (hvs : w.heap[vb]? = some (.cells vs.toArray 41 (0, 0))) (h1 : ∀ u ∈ vs, u.oneCell' = true) (h1c : ∀ u ∈ l, u.oneCell' = true) :
    Calls Yba.prog 8 #[.slice (some ⟨g, 0, none⟩) n n, .int .i64 i, .slice (some ⟨vb, 0, none⟩) 1 1] w (InsPost T (.slice (some ⟨g, 0, none⟩) n n) l n i vs w) := by
  obtain ⟨i41, hi41, hz41, hs41, hb41⟩ := info_parts info41
  have hsz : (Yba.prog.info? 41).map (·.size) = some 3 := by kernel_rfl
  have hll : l.length = n * 3 := by rw [← hl, List.length_take]; simp [hcs]
  have hgw : g < w.heap.size := (Array.getElem?_eq_some_iff.1 hg).1
  have hvw : vb < w.heap.size := (Array.getElem?_eq_some_iff.1 hvs).1
  have hrow : ∀ (j : Nat) (v : Value), l[j]? = some v → w.cell? ⟨g, j, none⟩ = some v := fun j v hj => by
    rw [cell_of_row w g _ cur 41 (0, 0) hg]
    rw [← hl, List.getElem?_take] at hj
    split at hj
    · simpa using hj
    · cases hj
  have hold : (Builtin.firstCells i41.size i (.slice (some ⟨g, 0, none⟩) i n)).run Yba.prog w.drew = .ok (l.take (i * 3)).toArray w.drew := by
    rw [hs41]
    exact run_firstCells_some w.drew 3 i ⟨g, 0, none⟩ i n (l.take (i * 3)) (by rw [List.length_take]; omega) (fun j v hj => by
      rw [WideShapes.add_plain, Nat.zero_add]
      rw [List.getElem?_take] at hj
      split at hj
      · exact hrow j v hj
      · cases hj)
  have hik : i + (n + 1 - i) = n + 1 := by omega
  have hkk : (n : Int) + 1 - (i : Int) = ((n + 1 - i : Nat) : Int) := by omega
  obtain ⟨G, hG⟩ : ∃ G, G = grownCap w (n + 1) n 41 := ⟨_, rfl⟩
  obtain ⟨Z, hZ⟩ : ∃ Z : List Value, Z = (Builtin.zeroCells (Value.agg #[.int .i64 0, .bool false, .int .u32 0]).cells (n + 1 - i)).toList ++ (Builtin.zeroCells (Value.agg #[.int .i64 0, .bool false, .int .u32 0]).cells (G - (n + 1))).toList := ⟨_, rfl⟩
  have hGn : n + 1 ≤ G := by rw [hG]; exact grownCap_ge w _ _ _
  have hGm : G ≤ maxLen := by rw [hG]; exact grownCap_le_maxLen w (n + 1) n 41 (by unfold maxLen; omega)
  have hZl : Z.length = (G - i) * 3 := by
    rw [hZ]
    simp [Builtin.zeroCells, Value.cells]
    omega
  have hrz : ∀ ty, (Builtin.append_ #[31, 3] ty #[.slice (some ⟨g, 0, none⟩) i n, .int .i64 ((n : Int) + 1 - (i : Int))]).run Yba.prog w = .ok (.slice (some ⟨w.heap.size, 0, none⟩) (n + 1) G) (w.drew.alloc (.cells (l.take (i * 3) ++ Z).toArray 41)) := fun ty => by
    have h := Lib.run_append_grow_zeros (P := Yba.prog) w 31 3 ty 41 i41 _ .i64 .i64 Yba.underlying31 Yba.underlying3 hi41 hz41 (some ⟨g, 0, none⟩) i n (l.take (i * 3)) hold (n + 1 - i) (by omega) (by omega) (by omega) (by omega) (by rw [hb41]; omega) (by rw [hb41, hik]; exact growslice_fits (by omega) (by omega))
    rw [hik] at h
    rw [hkk, h, hG, hZ]
    congr 3
    apply Array.ext'
    simp [hG]
  obtain ⟨W1, hW1⟩ : ∃ W1, W1 = w.drew.alloc (.cells (l.take (i * 3) ++ Z).toArray 41) := ⟨_, rfl⟩
  rw [← hW1] at hrz
  have hXl : (l.take (i * 3)).length = i * 3 := by rw [List.length_take]; omega
  have hRl : (l.take (i * 3) ++ Z).length = G * 3 := by rw [List.length_append, hXl, hZl]; omega
  have hW1N : W1.heap[w.heap.size]? = some (.cells (l.take (i * 3) ++ Z).toArray 41 (0, 0)) := by rw [hW1]; exact heap_alloc_new w.drew _
  have hW1o : ∀ k : Nat, k < w.heap.size → W1.heap[k]? = w.heap[k]? := fun k hk => by rw [hW1]; exact heap_alloc_old w.drew _ hk
  have hcpA : ∀ (W : World), (∀ k : Nat, W.heap[k]? = W1.heap[k]?) → ∀ ty dc, (Builtin.copy_ #[31, 31] ty #[.slice (some ⟨w.heap.size, i * 3, none⟩) (n + 1 - i) dc, .slice (some ⟨vb, 0, none⟩) 1 1]).run Yba.prog W = .ok (goInt 1) (W.setRow w.heap.size (splice (l.take (i * 3) ++ Z) (i * 3) vs).toArray) := fun W hW ty dc => by
    have h := run_copy_wide W 31 31 ty 41 3 w.heap.size (i * 3) (n + 1 - i) dc ⟨vb, 0, none⟩ 1 1 1 (l.take (i * 3) ++ Z).toArray 41 vs Yba.underlying31 hsz (by rw [hW]; exact hW1N) (by show min _ _ = _; omega) hvl
      (fun j v hj => by
        rw [WideShapes.add_plain, Nat.zero_add, cell_of_row W vb _ _ 41 (0, 0) (by rw [hW, hW1o _ hvw]; exact hvs)]
        simpa using hj)
      (by rw [List.size_toArray, hRl, hvl]; omega) h1
    rw [over_row] at h
    exact h
  have hsl : (splice (l.take (i * 3) ++ Z) (i * 3) vs).length = G * 3 := by rw [length_splice _ _ _ (by rw [hRl, hvl]; omega), hRl]
  have hcpB : ∀ (W : World), (∀ k : Nat, W.heap[k]? = (W1.setRow w.heap.size (splice (l.take (i * 3) ++ Z) (i * 3) vs).toArray).heap[k]?) → ∀ ty dc sc, (Builtin.copy_ #[31, 31] ty #[.slice (some ⟨w.heap.size, (i + 1) * 3, none⟩) (n - i) dc, .slice (some ⟨g, i * 3, none⟩) (n - i) sc]).run Yba.prog W = .ok (goInt ((n - i : Nat) : Int)) (W.setRow w.heap.size (splice (splice (l.take (i * 3) ++ Z) (i * 3) vs) ((i + 1) * 3) (l.drop (i * 3))).toArray) := fun W hW ty dc sc => by
    have hN : W.heap[w.heap.size]? = some (.cells (splice (l.take (i * 3) ++ Z) (i * 3) vs).toArray 41 (0, 0)) := by rw [hW]; exact setRow_heap W1 _ _ _ 41 _ hW1N
    have hO : W.heap[g]? = w.heap[g]? := by rw [hW, setRow_other _ _ _ _ (by omega), hW1o _ hgw]
    have h := run_copy_wide W 31 31 ty 41 3 w.heap.size ((i + 1) * 3) (n - i) dc ⟨g, i * 3, none⟩ (n - i) sc (n - i) (splice (l.take (i * 3) ++ Z) (i * 3) vs).toArray 41 (l.drop (i * 3)) Yba.underlying31 hsz hN (by show min _ _ = _; omega) (by rw [List.length_drop, hll]; omega)
      (fun j v hj => by
        rw [WideShapes.add_plain, World.cell?_of_block (w := w) hO]
        rw [List.getElem?_drop] at hj
        exact hrow _ v hj)
      (by rw [List.size_toArray, hsl, List.length_drop, hll]; omega) (fun v hv => h1c v (List.mem_of_mem_drop hv))
    rw [over_row] at h
    exact h
  have hfin : ∀ (W : World), (∀ k : Nat, W.heap[k]? = (W1.setRow w.heap.size (splice (l.take (i * 3) ++ Z) (i * 3) vs).toArray).heap[k]?) → w.heap.size ≤ W.heap.size → W.os = w.os → W.tape = w.tape → W.output = w.output → InsPost T (.slice (some ⟨g, 0, none⟩) n n) l n i vs w (.returned (.slice (some ⟨w.heap.size, 0, none⟩) (n + 1) G)) (W.setRow w.heap.size (splice (splice (l.take (i * 3) ++ Z) (i * 3) vs) ((i + 1) * 3) (l.drop (i * 3))).toArray) := fun W hW hsW ho ht hu => by
    refine ⟨w.heap.size, G, rfl, ⟨?_, .inr ⟨w.heap.size, G, _, rfl, hT, setRow_heap W w.heap.size _ _ 41 _ (by rw [hW]; exact setRow_heap W1 _ _ _ 41 _ hW1N), hGn, hGm, ?_, ?_⟩⟩, ⟨ho, ht, hu, by simp [World.setRow]; exact hsW, fun k hk hne => ?_⟩, .inr rfl⟩
    · simp only [List.length_append, List.length_take, List.length_drop, hvl, hll]; omega
    · rw [List.size_toArray, length_splice _ _ _ (by rw [hsl, List.length_drop, hll]; omega), hsl]
    · exact grow_cells _ _ _ _ n i hXl hi hvl (by rw [List.length_drop, hll]; omega)
    · have hk' : k ≠ w.heap.size := by omega
      rw [setRow_other _ _ _ _ hk', hW, setRow_other _ _ _ _ hk', hW1o _ hk]
  have hs1 : W1.heap.size = w.heap.size + 1 := by rw [hW1]; simp
  have ho1 : W1.os = w.os := by rw [hW1]; rfl
  have ht1 : W1.tape = w.tape := by rw [hW1]; rfl
  have hu1 : W1.output = w.output := by rw [hW1]; rfl
  have HFIN : Hid (∀ (W : World), (∀ k : Nat, W.heap[k]? = (W1.setRow w.heap.size (splice (l.take (i * 3) ++ Z) (i * 3) vs).toArray).heap[k]?) → w.heap.size ≤ W.heap.size → W.os = w.os → W.tape = w.tape → W.output = w.output → InsPost T (.slice (some ⟨g, 0, none⟩) n n) l n i vs w (.returned (.slice (some ⟨w.heap.size, 0, none⟩) (n + 1) G)) (W.setRow w.heap.size (splice (splice (l.take (i * 3) ++ Z) (i * 3) vs) ((i + 1) * 3) (l.drop (i * 3))).toArray)) := hfin
  have hw1 : IntKind.i64.wrap ((i : Int) + 1) = (i : Int) + 1 := by rw [IntKind.wrap_i64]; omega
  have hb1 : (0 : Int) ≤ (i : Int) + 1 := by omega
  have hb1' : (i : Int) + 1 ≤ (n : Int) + 1 := by omega
  have htn : ((i : Int) + 1).toNat = i + 1 := by omega
  have hb2 : ¬ (G = i + 1) := by omega
  have hb3 : (i : Int) ≤ (n : Int) + 1 := by omega
  have hb4 : ¬ (G = i) := by omega
  have hb5 : (i : Int) ≤ (n : Int) := by omega
  have hb6 : ¬ (n = i) := by omega
  have hG63 : G ≤ 9223372036854775807 := by unfold maxLen at hGm; omega
  clear hfin hsl hRl hXl hZl hll hZ hG hold hkk hik hrow hW1N hW1o hl hcs h1 h1c hW1
  go_enter Yba.func8, Yba.ntmps8
  go_wp2_with (first
    | (at_builtin; refine Lib.wpList_append_run _ rfl _ _ _ _ rfl _ _ rfl rfl _ _ (hrz _) ?_)
    | (at_builtin; refine wpList_copy_runI _ rfl _ _ 31 31 rfl _ _ rfl rfl (hcpA _ (fun _ => rfl) _ _) ?_))
  have hB := hcpB (W1.setRow w.heap.size (splice (l.take (i * 3) ++ Z) (i * 3) vs).toArray).drew (fun _ => rfl) 3 (G - (i + 1)) (n - i)
  go_region_law (refine step_copy_runI (by rfl) (.tmp 50) (.tmp 53) 31 31 (by rfl) (.slice (some ⟨w.heap.size, (i + 1) * 3, none⟩) (n - i) (G - (i + 1))) (.slice (some ⟨g, i * 3, none⟩) (n - i) (n - i)) (by simp [Act.eval, Act.put]) (by simp [Act.eval, Act.put]) hB ?_)
  go_wp2_with fail
  go_ret
  exact HFIN.out (W1.setRow w.heap.size (splice (l.take (i * 3) ++ Z) (i * 3) vs).toArray).drew (fun _ => rfl) (by simp [World.setRow]; omega) ho1 ht1 hu1
end Go.Proofs.Ybulkbmoi
