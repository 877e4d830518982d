/-
  slices.Insert at []clusterSum, one value.
-/
import Derived.Test.YbulkbmoiMerge2
import Derived.Laws.CopyRow
import Derived.Lib.Overlaps
import Derived.Lib.AppendZerosOnto
import Derived.Laws.Externs
import Derived.Deep.RegionLaw
import Derived.Shelf.Spec.SlicesInsert
namespace Go.Proofs.Ybulkbmoi
open Go.RowKit Go

theorem run_copy_wide {P : Program} (w : World) (dT sT ty elem : TypeId) (s g o dLen dCap : Nat) (a : Addr) (sLen sCap m : Nat) (cur : Array Value) (t : TypeId) (cs : List Value)
    (hu : P.underlying dT = some (.slice elem)) (hs : (P.info? elem).map (·.size) = some s)
    (hg : w.heap[g]? = some (.cells cur t (0, 0))) (hm : Nat.min sLen dLen = m) (hn : cs.length = m * s)
    (hsrc : ∀ j v, cs[j]? = some v → w.cell? (a.add j) = some v) (hfit : o + cs.length ≤ cur.size) (h1 : ∀ v ∈ cs, v.oneCell' = true) :
    (Builtin.copy_ #[dT, sT] ty #[.slice (some ⟨g, o, none⟩) dLen dCap, .slice (some a) sLen sCap]).run P w =
      .ok (goInt m) (w.setRow g (cur.toList.take o ++ cs ++ cur.toList.drop (o + cs.length)).toArray) := by
  have hl := run_firstCells_some (P := P) w s m a sLen sCap cs hn hsrc
  have hst := run_storeCells_at P g o t cs 0 cur w hg (by simpa using hfit) h1
  cases hq : P.info? elem with
  | none => simp [hq] at hs
  | some i =>
    have hi : i.size = s := by simpa [hq] using hs
    simp [Builtin.copy_, run_underlying hu, Builtin.lenOf, sizeOf, typeInfo, hq, hi, hm, hl, hst]

theorem over_row (L cs : List Value) (o : Nat) : L.take o ++ cs ++ L.drop (o + cs.length) = splice L o cs := by simp [splice]

/-- What Insert leaves. -/
def InsPost (T : Nat) (v : Value) (l : List Value) (n i : Nat) (vs : List Value) (w : World) (e : Ending) (w' : World) : Prop :=
  ∃ g cap, e = .returned (.slice (some ⟨g, 0, none⟩) (n + 1) cap) ∧ w'.ownsRow T 41 3 (.slice (some ⟨g, 0, none⟩) (n + 1) cap) (n + 1) (l.take (i * 3) ++ vs ++ l.drop (i * 3)) ∧ w.grownBy w' v.ownBlock ∧ (v.ownBlock = some g ∨ g = w.heap.size)

set_option maxRecDepth 100000 in
set_option maxHeartbeats 1000000 in
/-- At the end. -/
theorem insert_end (T n vb : Nat) (v : Value) (l vs : List Value) (w : World) (hown : w.ownsRow T 41 3 v n l) (hn : n ≤ 4096) (hT : T ≤ w.heap.size) (hvl : vs.length = 3) (hvs : w.heap[vb]? = some (.cells vs.toArray 41 (0, 0))) (h1 : ∀ u ∈ vs, u.oneCell' = true) :
    Calls Yba.prog 8 #[v, .int .i64 n, .slice (some ⟨vb, 0, none⟩) 1 1] w (InsPost T v l n n vs w) := by
  obtain ⟨i41, hi41, hz41, hs41, hb41⟩ := info_parts info41
  have hsrc : ∀ (j : Nat) (u : Value), vs[j]? = some u → w.cell? ((⟨vb, 0, none⟩ : Addr).add j) = some u := fun j u hj => by
    rw [WideShapes.add_plain, Nat.zero_add, cell_of_row w vb j _ 41 (0, 0) hvs]
    simpa using hj
  obtain ⟨ao, cap, rfl, hcap⟩ : ∃ ao cap, v = .slice ao n cap ∧ n ≤ cap := by
    rcases hown.2 with ⟨h, h0⟩ | ⟨g, cap, cur, h, _, _, h2, _⟩
    · exact ⟨none, 0, by rw [h, h0], by omega⟩
    · exact ⟨_, cap, h, h2⟩
  have q3 : n + 1 ≤ maxLen := by unfold maxLen; omega
  have q4 : (n + 1) * 16 ≤ 140737488355328 := by omega
  by_cases hce : cap = n
  · subst hce
    go_enter Yba.func8, Yba.ntmps8
    go_wp2_with (at_builtin; refine wpList_append_lies _ rfl _ _ 31 rfl T 41 i41 _ 3 16 Yba.underlying31 hi41 hz41 hs41 hb41 rfl (by decide) _ _ _ rfl hown _ 1 1 vs rfl hvl hsrc h1 (by decide) q3 q4 hT _ rfl ?_; intro g5 cap5 w2 hown5 hgrow5 hat5 hlt5)
    go_ret
    refine ⟨g5, cap5, rfl, ?_, hgrow5, hat5⟩
    rw [← hown.1, List.take_length, List.drop_length, List.append_nil]
    exact hown5
  · go_enter Yba.func8, Yba.ntmps8
    go_wp2_with (at_builtin; refine wpList_append_lies _ rfl _ _ 31 rfl T 41 i41 _ 3 16 Yba.underlying31 hi41 hz41 hs41 hb41 rfl (by decide) _ _ _ rfl hown _ 1 1 vs rfl hvl hsrc h1 (by decide) q3 q4 hT _ rfl ?_; intro g5 cap5 w2 hown5 hgrow5 hat5 hlt5)
    go_ret
    refine ⟨g5, cap5, rfl, ?_, hgrow5, hat5⟩
    rw [← hown.1, List.take_length, List.drop_length, List.append_nil]
    exact hown5

/-- The row, its tail shifted by one element and the new one laid in. -/
theorem shift_cells (L vs : List Value) (n i c : Nat) (hL : L.length = c * 3) (hn : n + 1 ≤ c) (hi : i < n) (hv : vs.length = 3) :
    (splice (splice L ((i + 1) * 3) ((L.take (n * 3)).drop (i * 3))) (i * 3) vs).take ((n + 1) * 3) = (L.take (n * 3)).take (i * 3) ++ vs ++ (L.take (n * 3)).drop (i * 3) := by
  have hd : ((L.take (n * 3)).drop (i * 3)).length = (n - i) * 3 := by simp; omega
  have e0 : (L.take (n * 3)).take (i * 3) = L.take (i * 3) := by rw [List.take_take]; congr 1; omega
  rw [e0]
  generalize (L.take (n * 3)).drop (i * 3) = D at *
  unfold splice
  have e1 : i * 3 + vs.length = (L.take ((i + 1) * 3)).length := by rw [hv, List.length_take]; omega
  have e2 : (L.take ((i + 1) * 3) ++ (D ++ L.drop ((i + 1) * 3 + D.length))).take (i * 3) = L.take (i * 3) := by
    rw [List.take_append_of_le_length (by rw [List.length_take]; omega), List.take_take]
    congr 1
    omega
  rw [e1, List.drop_left, e2]
  have e3 : L.take (i * 3) ++ (vs ++ (D ++ L.drop ((i + 1) * 3 + D.length))) = (L.take (i * 3) ++ vs ++ D) ++ L.drop ((i + 1) * 3 + D.length) := by simp
  rw [e3]
  have e4 : (n + 1) * 3 = (L.take (i * 3) ++ vs ++ D).length := by simp only [List.length_append, List.length_take, hv, hd, hL]; omega
  rw [e4, List.take_left]

set_option maxRecDepth 100000 in
set_option maxHeartbeats 1000000 in
/-- In the midst, with room. -/
theorem insert_room (T n cap g i vb : Nat) (cur : Array Value) (l vs : List Value) (w : World) (hg : w.heap[g]? = some (.cells cur 41 (0, 0))) (hTg : T ≤ g) (hcs : cur.size = cap * 3) (hl : cur.toList.take (n * 3) = l) (hcap : n + 1 ≤ cap) (hcm : cap ≤ maxLen) (hi : i < n) (hn : n ≤ 4096) (hvb : vb ≠ g) (hvl : vs.length = 3) (hvs : w.heap[vb]? = some (.cells vs.toArray 41 (0, 0))) (h1 : ∀ u ∈ vs, u.oneCell' = true) (h1c : ∀ u ∈ l, u.oneCell' = true) :
    Calls Yba.prog 8 #[.slice (some ⟨g, 0, none⟩) n cap, .int .i64 i, .slice (some ⟨vb, 0, none⟩) 1 1] w (InsPost T (.slice (some ⟨g, 0, none⟩) n cap) l n i vs w) := by
  have hov : ∀ lb cb, (callFunc 14 #[.slice (some ⟨vb, 0, none⟩) 1 1, .slice (some ⟨g, (i + 1) * 3, none⟩) lb cb]).run Yba.prog w = .ok (.value (.bool false)) w := fun lb cb => by
    rw [run_callFunc_extern Yba.func14 (by kernel_rfl) (by kernel_rfl) (by kernel_rfl) (e := Extern.SlicesOverlaps.overlaps #[31, 31] #[4]) (by kernel_rfl),
      Lib.run_overlaps_apart w 31 4 41 Yba.underlying31 3 Yba.sizeOf41 ⟨vb, 0, none⟩ ⟨g, (i + 1) * 3, none⟩ 1 1 lb cb hvb 41 41 3 (cap * 3) (by simp [World.shape?, hvs, hvl]) (by simp [World.shape?, hg, hcs]) (by omega) (frozen_of_row w vb _ _ 41 hvs) (frozen_of_row w vb _ _ 41 hvs)]
    rfl
  have hc63 : cap ≤ 9223372036854775807 := by unfold maxLen at hcm; omega
  have hsz : (Yba.prog.info? 41).map (·.size) = some 3 := by kernel_rfl
  have hll : l.length = n * 3 := by rw [← hl, List.length_take]; simp [hcs]; omega
  have hLL : cur.toList.length = cap * 3 := by simpa using hcs
  have hcp1 : ∀ ty dc sc, (Builtin.copy_ #[31, 31] ty #[.slice (some ⟨g, (i + 1) * 3, none⟩) (n - i) dc, .slice (some ⟨g, i * 3, none⟩) (n + 1 - i) sc]).run Yba.prog w.drew = .ok (goInt ((n - i : Nat) : Int)) (w.drew.setRow g (cur.toList.take ((i + 1) * 3) ++ l.drop (i * 3) ++ cur.toList.drop ((i + 1) * 3 + (l.drop (i * 3)).length)).toArray) := fun ty dc sc =>
    run_copy_wide w.drew 31 31 ty 41 3 g ((i + 1) * 3) (n - i) dc ⟨g, i * 3, none⟩ (n + 1 - i) sc (n - i) cur 41 (l.drop (i * 3)) Yba.underlying31 hsz hg (by show min _ _ = _; omega) (by rw [List.length_drop, hll]; omega)
      (fun j v hj => by
        rw [WideShapes.add_plain]
        show w.cell? _ = _
        rw [cell_of_row w g _ cur 41 (0, 0) hg]
        rw [List.getElem?_drop, ← hl, List.getElem?_take] at hj
        split at hj
        · simpa using hj
        · cases hj)
      (by rw [List.length_drop, hll, hcs]; omega) (fun v hv => h1c v (List.mem_of_mem_drop hv))
  rw [over_row] at hcp1
  obtain ⟨W1, hW1⟩ : ∃ W1, W1 = w.drew.setRow g (splice cur.toList ((i + 1) * 3) (l.drop (i * 3))).toArray := ⟨_, rfl⟩
  rw [← hW1] at hcp1
  have hW1g : W1.heap[g]? = some (.cells (splice cur.toList ((i + 1) * 3) (l.drop (i * 3))).toArray 41 (0, 0)) := by rw [hW1]; exact setRow_heap w.drew g cur _ 41 _ hg
  have hW1v : W1.heap[vb]? = some (.cells vs.toArray 41 (0, 0)) := by rw [hW1, setRow_other _ _ _ _ hvb]; exact hvs
  have hls : (splice cur.toList ((i + 1) * 3) (l.drop (i * 3))).length = cap * 3 := by rw [length_splice _ _ _ (by rw [List.length_drop, hll, hLL]; omega), hLL]
  have hcp2 : ∀ (W : World), (∀ k, W.heap[k]? = W1.heap[k]?) → ∀ ty dc, (Builtin.copy_ #[31, 31] ty #[.slice (some ⟨g, i * 3, none⟩) (n + 1 - i) dc, .slice (some ⟨vb, 0, none⟩) 1 1]).run Yba.prog W = .ok (goInt 1) (W.setRow g (splice (splice cur.toList ((i + 1) * 3) (l.drop (i * 3))) (i * 3) vs).toArray) := fun W hW ty dc => by
    have h := run_copy_wide W 31 31 ty 41 3 g (i * 3) (n + 1 - i) dc ⟨vb, 0, none⟩ 1 1 1 (splice cur.toList ((i + 1) * 3) (l.drop (i * 3))).toArray 41 vs Yba.underlying31 hsz (by rw [hW]; exact hW1g) (by show min _ _ = _; omega) hvl
      (fun j v hj => by
        rw [WideShapes.add_plain, Nat.zero_add, cell_of_row W vb _ _ 41 (0, 0) (by rw [hW]; exact hW1v)]
        simpa using hj)
      (by simp only [List.size_toArray]; rw [hls, hvl]; omega) h1
    rw [over_row] at h
    exact h
  have hw1 : IntKind.i64.wrap ((i : Int) + 1) = (i : Int) + 1 := by rw [IntKind.wrap_i64]; omega
  have hb1 : (0 : Int) ≤ (i : Int) + 1 := by omega
  have hb1' : (i : Int) + 1 ≤ (n : Int) + 1 := by omega
  have htn : ((i : Int) + 1).toNat = i + 1 := by omega
  have hb2 : ¬ (cap = i + 1) := by omega
  have hb3 : (i : Int) ≤ (n : Int) + 1 := by omega
  have hb4 : ¬ (cap = i) := by omega
  have hfin : ∀ (W : World), (∀ k : Nat, W.heap[k]? = W1.heap[k]?) → W.heap.size = w.heap.size → W.os = w.os → W.tape = w.tape → W.output = w.output → InsPost T (.slice (some ⟨g, 0, none⟩) n cap) l n i vs w (.returned (.slice (some ⟨g, 0, none⟩) (n + 1) cap)) (W.setRow g (splice (splice cur.toList ((i + 1) * 3) (l.drop (i * 3))) (i * 3) vs).toArray) := fun W hW hsW ho ht hu => by
    refine ⟨g, cap, rfl, ⟨?_, .inr ⟨g, cap, _, rfl, hTg, setRow_heap W g _ _ 41 _ (by rw [hW]; exact hW1g), hcap, hcm, ?_, ?_⟩⟩, ⟨ho, ht, hu, by simp [World.setRow, hsW], fun k hk hne => ?_⟩, .inl rfl⟩
    · simp only [List.length_append, List.length_take, List.length_drop, hvl, hll]; omega
    · rw [List.size_toArray, length_splice _ _ _ (by rw [hls, hvl]; omega), hls]
    · have h := shift_cells cur.toList vs n i cap hLL hcap hi hvl
      rw [hl] at h
      exact h
    · have hk' : k ≠ g := fun e => hne (by simp [Value.ownBlock, e])
      rw [setRow_other _ _ _ _ hk', hW, hW1, setRow_other _ _ _ _ hk']
      rfl
  have hsz1 : W1.heap.size = w.heap.size := by rw [hW1]; simp [World.setRow]
  have ho1 : W1.os = w.os := by rw [hW1]; rfl
  have ht1 : W1.tape = w.tape := by rw [hW1]; rfl
  have hu1 : W1.output = w.output := by rw [hW1]; rfl
  have HFIN : Hid (∀ (W : World), (∀ k : Nat, W.heap[k]? = W1.heap[k]?) → W.heap.size = w.heap.size → W.os = w.os → W.tape = w.tape → W.output = w.output → InsPost T (.slice (some ⟨g, 0, none⟩) n cap) l n i vs w (.returned (.slice (some ⟨g, 0, none⟩) (n + 1) cap)) (W.setRow g (splice (splice cur.toList ((i + 1) * 3) (l.drop (i * 3))) (i * 3) vs).toArray)) := hfin
  clear hfin hls hll hLL hW1 hW1g hW1v hl hcs h1 h1c
  go_enter Yba.func8, Yba.ntmps8
  go_wp2_with fail
  go_region_law (refine step_copy_runI (by rfl) (.tmp 73) (.tmp 76) 31 31 (by rfl) _ _ (by simp [Act.eval, Act.put]) (by simp [Act.eval, Act.put]) (hcp1 _ _ _) ?_)
  go_wp2_with (at_builtin; refine wpList_copy_runI _ rfl _ _ 31 31 rfl _ _ rfl rfl (hcp2 _ (fun _ => rfl) _ _) ?_)
  go_ret
  exact HFIN.out _ (fun _ => rfl) hsz1 ho1 ht1 hu1
end Go.Proofs.Ybulkbmoi
