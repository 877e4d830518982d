/-
  mergeSums: the merger's state, and what mergeSums makes.
-/
import Derived.Test.YbulkbmoiNext
namespace Go.Proofs.Ybulkbmoi
open Go.RowKit Go

def cluV (c : Clu) : Value := .agg #[.int .i64 c.idx, .bool c.zeros, .int .u32 c.crc]
def headC (nxt : Nat) (es : List Ent) : Clu := (decode nxt es).headD ⟨0, false, 0⟩
def nextN (nxt : Nat) : List Ent → Nat
  | [] => nxt
  | e :: _ => nxt + e.gap + 1

/-- A cursor's next, whatever is left. -/
theorem next_any (C g o cap nxt : Nat) (es : List Ent) (w : World) (h : Cur w C g o cap nxt es) :
    Calls Yba.prog 13 #[.pointer (some ⟨C, 0, none⟩)] w fun e w' => e = .returned (.tuple #[cluV (headC nxt es), .bool (!es.isEmpty)]) ∧ w.grownBy w' (some C) ∧ ∃ o' cap', Cur w' C g o' cap' (nextN nxt es) es.tail := by
  cases es with
  | nil =>
    refine (next_none C g o cap nxt w h).mono ?_
    rintro e w' ⟨rfl, hb⟩
    have hg : w.grownBy w' (some C) := ⟨hb.os, hb.tape, hb.output, hb.size, fun k hk _ => hb.block k hk⟩
    refine ⟨rfl, hg, o, cap, ?_, h.ok, h.room, h.small, h.len, fun j hj => ?_, h.apart⟩
    · rw [hb.block C (Array.getElem?_eq_some_iff.1 h.row).1]; exact h.row
    · have h1 := h.bytes j hj
      rw [hb.cell (World.block_lt_of_cell? w _ h1)]
      exact h1
  | cons E es =>
    cases hz : E.zeros with
    | true =>
      refine (next_z C g o cap nxt E es w h hz).mono ?_
      rintro e w' ⟨rfl, hg, hc⟩
      refine ⟨?_, hg, _, _, hc⟩
      simp [cluV, headC, decode, hz]
    | false =>
      refine (next_nz C g o cap nxt E es w h hz).mono ?_
      rintro e w' ⟨rfl, hg, hc⟩
      refine ⟨?_, hg, _, _, hc⟩
      simp [cluV, headC, decode, hz]

/-- One point's state: its head, whether it is live, what its cursor has left. -/
structure St where
  live : Bool
  head : Clu
  nxt : Nat
  rest : List Ent

def advance (nxt : Nat) (es : List Ent) : St := ⟨!es.isEmpty, headC nxt es, nextN nxt es, es.tail⟩

/-- The heads' row: the first k points' heads. -/
def HeadsRow (w : World) (H n : Nat) (ss : List St) : Prop :=
  ∃ cur, w.heap[H]? = some (.cells cur 41 (0, 0)) ∧ cur.size = n * 3 ∧ ∀ i, i < ss.length → cur[i * 3]? = some (.int .i64 ((ss.getD i ⟨false, ⟨0, false, 0⟩, 0, []⟩).head.idx : Int)) ∧ cur[i * 3 + 1]? = some (.bool (ss.getD i ⟨false, ⟨0, false, 0⟩, 0, []⟩).head.zeros) ∧ cur[i * 3 + 2]? = some (.int .u32 ((ss.getD i ⟨false, ⟨0, false, 0⟩, 0, []⟩).head.crc : Int))
def LiveRow (w : World) (H n : Nat) (ss : List St) : Prop :=
  ∃ cur, w.heap[H]? = some (.cells cur 4 (0, 0)) ∧ cur.size = n ∧ ∀ i, i < ss.length → cur[i]? = some (.bool (ss.getD i ⟨false, ⟨0, false, 0⟩, 0, []⟩).live)

/-- The merger's three blocks, made. -/
def Start (T : Nat) (w wc : World) (n : Nat) (Z1 Z2 : Array Value) (M Hh Hl : Nat) : Prop :=
  wc.heap[M]? = some (.cells #[.slice none 0 0, .slice (some ⟨Hh, 0, none⟩) n n, .slice (some ⟨Hl, 0, none⟩) n n] 34 (0, 0)) ∧ wc.heap[Hh]? = some (.cells Z1 41 (0, 0)) ∧ wc.heap[Hl]? = some (.cells Z2 4 (0, 0)) ∧ T ≤ Hh ∧ T ≤ Hl ∧ T ≤ M ∧ Hh ≠ Hl ∧ Hh ≠ M ∧ Hl ≠ M ∧ Below T w wc

theorem start_a (w : World) (n : Nat) (Z1 Z2 : Array Value) (o : Nat) : Start w.heap.size w (((((w.alloc (.cells Z1 41)).alloc (.cells Z2 4)).alloc (.cells #[.slice none 0 0, .slice (some ⟨w.heap.size, 0, none⟩) n n, .slice (some ⟨w.heap.size + 1, 0, none⟩) n n] 34))).drewN o) n Z1 Z2 (w.heap.size + 2) w.heap.size (w.heap.size + 1) := by
  refine ⟨?_, ?_, ?_, by omega, by omega, by omega, by omega, by omega, by omega, ?_⟩
  · have := heap_alloc_new ((w.alloc (.cells Z1 41)).alloc (.cells Z2 4)) (.cells #[.slice none 0 0, .slice (some ⟨w.heap.size, 0, none⟩) n n, .slice (some ⟨w.heap.size + 1, 0, none⟩) n n] 34)
    simpa using this
  · show (((w.alloc _).alloc _).alloc _).heap[_]? = _
    rw [heap_alloc_old _ _ (by simp; omega), heap_alloc_old _ _ (by simp), heap_alloc_new]
  · show (((w.alloc _).alloc _).alloc _).heap[_]? = _
    rw [heap_alloc_old _ _ (by simp)]
    have := heap_alloc_new (w.alloc (.cells Z1 41)) (.cells Z2 4)
    simpa using this
  · have h := ((((Below.refl w.heap.size w).alloc (Nat.le_refl _) (.cells Z1 41)).alloc (by simp) (.cells Z2 4)).alloc (by simp; omega) (.cells #[.slice none 0 0, .slice (some ⟨w.heap.size, 0, none⟩) n n, .slice (some ⟨w.heap.size + 1, 0, none⟩) n n] 34))
    exact ⟨h.os, h.tape, h.output, h.size, h.block⟩

theorem start_b (w : World) (n : Nat) (Z1 Z2 : Array Value) (o : Nat) : Start w.heap.size w (((((w.alloc (.cells Z2 4)).alloc (.cells Z1 41)).alloc (.cells #[.slice none 0 0, .slice (some ⟨w.heap.size + 1, 0, none⟩) n n, .slice (some ⟨w.heap.size, 0, none⟩) n n] 34))).drewN o) n Z1 Z2 (w.heap.size + 2) (w.heap.size + 1) w.heap.size := by
  refine ⟨?_, ?_, ?_, by omega, by omega, by omega, by omega, by omega, by omega, ?_⟩
  · have := heap_alloc_new ((w.alloc (.cells Z2 4)).alloc (.cells Z1 41)) (.cells #[.slice none 0 0, .slice (some ⟨w.heap.size + 1, 0, none⟩) n n, .slice (some ⟨w.heap.size, 0, none⟩) n n] 34)
    simpa using this
  · show (((w.alloc _).alloc _).alloc _).heap[_]? = _
    rw [heap_alloc_old _ _ (by simp)]
    have := heap_alloc_new (w.alloc (.cells Z2 4)) (.cells Z1 41)
    simpa using this
  · show (((w.alloc _).alloc _).alloc _).heap[_]? = _
    rw [heap_alloc_old _ _ (by simp; omega), heap_alloc_old _ _ (by simp), heap_alloc_new]
  · have h := ((((Below.refl w.heap.size w).alloc (Nat.le_refl _) (.cells Z2 4)).alloc (by simp) (.cells Z1 41)).alloc (by simp; omega) (.cells #[.slice none 0 0, .slice (some ⟨w.heap.size + 1, 0, none⟩) n n, .slice (some ⟨w.heap.size, 0, none⟩) n n] 34))
    exact ⟨h.os, h.tape, h.output, h.size, h.block⟩

def dSt : St := ⟨false, ⟨0, false, 0⟩, 0, []⟩

/-- What lies apart. -/
structure Apart (T : Nat) (w : World) (M Hh Hl : Nat) (CS : List Nat) (cv : Value) : Prop where
  h1 : T ≤ Hh
  h2 : T ≤ Hl
  h3 : T ≤ M
  h4 : Hh ≠ Hl
  h5 : Hh ≠ M
  h6 : Hl ≠ M
  cs : ∀ i, i < CS.length → T ≤ CS.getD i 0 ∧ CS.getD i 0 < w.heap.size ∧ CS.getD i 0 ≠ M ∧ CS.getD i 0 ≠ Hh ∧ CS.getD i 0 ≠ Hl
  nodup : ∀ i j, i < j → j < CS.length → CS.getD i 0 ≠ CS.getD j 0
  own : ∀ g, cv.ownBlock = some g → g ≠ M ∧ g ≠ Hh ∧ g ≠ Hl ∧ ∀ i, i < CS.length → g ≠ CS.getD i 0

/-- The merger at w: its cursors, heads and marks; the first ss.length of them are set. -/
structure MS (T : Nat) (w : World) (n M Hh Hl : Nat) (CS : List Nat) (cv : Value) (ss : List St) : Prop where
  m : w.heap[M]? = some (.cells #[cv, .slice (some ⟨Hh, 0, none⟩) n n, .slice (some ⟨Hl, 0, none⟩) n n] 34 (0, 0))
  own : w.ownsRow T 35 1 cv CS.length (CS.map ptr)
  heads : HeadsRow w Hh n ss
  live : LiveRow w Hl n ss
  cur : ∀ i, i < ss.length → ∃ g o cap, Cur w (CS.getD i 0) g o cap (ss.getD i dSt).nxt (ss.getD i dSt).rest ∧ g < T
  apart : Apart T w M Hh Hl CS cv

theorem sum_cell {S n k : Nat} {w wr : World} {PS : List Nat} (h : w.ownsRow S 56 1 (.slice (some ⟨S, 0, none⟩) n n) n (PS.map ptr)) (hPS : PS.length = n) (hk : k < n) (hb : Below w.heap.size w wr) : wr.cell? ⟨S, k, none⟩ = some (ptr (PS.getD k 0)) := by
  have h1 : w.cell? ⟨S, k, none⟩ = some (ptr (PS.getD k 0)) := by
    rw [h.cellAt k (by omega)]
    have : k < PS.length := by omega
    simp [List.getD, this]
  rw [hb.cell (World.block_lt_of_cell? w _ h1)]
  exact h1

theorem pt_cell {P : Nat} {w wr : World} {cs : Array Value} (h : w.heap[P]? = some (.cells cs 58 (0, 0))) (hb : Below w.heap.size w wr) (j : Nat) {v : Value} (hj : cs[j]? = some v) : wr.cell? ⟨P, j, none⟩ = some v := by
  rw [hb.cell (show P < _ from (Array.getElem?_eq_some_iff.1 h).1), cell_of_row w P j cs 58 (0, 0) h]
  exact hj

theorem ms_cell {T n M Hh Hl : Nat} {w : World} {CS : List Nat} {cv : Value} {ss : List St} (h : MS T w n M Hh Hl CS cv ss) (j : Nat) {v : Value} (hj : #[cv, .slice (some ⟨Hh, 0, none⟩) n n, .slice (some ⟨Hl, 0, none⟩) n n][j]? = some v) : w.cell? ⟨M, j, none⟩ = some v := by
  rw [cell_of_row w M j _ 34 (0, 0) h.m]
  exact hj

theorem owns_of_old {w X : World} {B : Nat} {e : TypeId} {s n : Nat} {v : Value} {xs : List Value} (h : w.ownsRow B e s v n xs) (hX : ∀ j, j < w.heap.size → X.heap[j]? = w.heap[j]?) : X.ownsRow B e s v n xs := owns_same h (fun j _ hj => hX j hj)

theorem old2 (wr : World) (o1 o2 : Obj) (j : Nat) (hj : j < wr.heap.size) : ((wr.alloc o1).alloc o2).heap[j]? = wr.heap[j]? := by
  rw [heap_alloc_old _ _ (by simp; omega), heap_alloc_old _ _ hj]

theorem new_cell (wr : World) (o1 : Obj) (x : Value) (e : TypeId) : ∀ (j : Nat) (u : Value), [x][j]? = some u → ((wr.alloc o1).alloc (.cells #[x] e)).cell? ((⟨wr.heap.size + 1, 0, none⟩ : Addr).add j) = some u :=
  lit_cells (wr.alloc o1) [x] e _ (by simp)

/-- X holds wr's blocks, and w2 is X but for one row. -/
theorem old_grown {wr X w2 : World} {r : Option Nat} (hg : X.grownBy w2 r) (hX : ∀ j, j < wr.heap.size → X.heap[j]? = wr.heap[j]?) : ∀ j, j < wr.heap.size → some j ≠ r → w2.heap[j]? = wr.heap[j]? := by
  intro j hj hne
  have hjX : j < X.heap.size := by
    have h := hX j hj
    rw [Array.getElem?_eq_getElem hj] at h
    exact (Array.getElem?_eq_some_iff.1 h).1
  rw [hg.block j hjX hne, hX j hj]

theorem m_far {T n M Hh Hl : Nat} {wr w2 : World} {CS : List Nat} {cv : Value} {ss : List St} (h : MS T wr n M Hh Hl CS cv ss) (ho : ∀ j, j < wr.heap.size → some j ≠ cv.ownBlock → w2.heap[j]? = wr.heap[j]?) :
    (∀ j, w2.cell? ⟨M, j, none⟩ = wr.cell? ⟨M, j, none⟩) ∧ (∀ j, w2.frozen? ⟨M, j, none⟩ = wr.frozen? ⟨M, j, none⟩) := by
  have hM : M < wr.heap.size := (Array.getElem?_eq_some_iff.1 h.m).1
  have e := ho M hM (fun e => (h.apart.own M e.symm).1 rfl)
  exact ⟨fun _ => World.cell?_of_block (w := wr) e, fun _ => World.frozen?_of_block (w := wr) e⟩

theorem Cur.keep {w w' : World} {C g o cap nxt : Nat} {es : List Ent} (h : Cur w C g o cap nxt es) (hC : w'.heap[C]? = w.heap[C]?) (hg : w'.heap[g]? = w.heap[g]?) : Cur w' C g o cap nxt es :=
  ⟨by rw [hC]; exact h.row, h.ok, h.room, h.small, h.len, fun j hj => (World.cell?_of_block (w := w) (a := ⟨g, o + j, none⟩) hg).trans (h.bytes j hj), h.apart⟩
theorem HeadsRow.keep {w w' : World} {H n : Nat} {ss : List St} (h : HeadsRow w H n ss) (e : w'.heap[H]? = w.heap[H]?) : HeadsRow w' H n ss := by
  obtain ⟨cur, h1, h2⟩ := h
  exact ⟨cur, by rw [e]; exact h1, h2⟩
theorem LiveRow.keep {w w' : World} {H n : Nat} {ss : List St} (h : LiveRow w H n ss) (e : w'.heap[H]? = w.heap[H]?) : LiveRow w' H n ss := by
  obtain ⟨cur, h1, h2⟩ := h
  exact ⟨cur, by rw [e]; exact h1, h2⟩

theorem new2 (wr : World) (o1 o2 : Obj) : ((wr.alloc o1).alloc o2).heap[wr.heap.size]? = some o1 := by
  rw [heap_alloc_old _ _ (by simp), heap_alloc_new]

theorem size2 (wr : World) (o1 o2 : Obj) : wr.heap.size + 2 ≤ ((wr.alloc o1).alloc o2).heap.size := by simp

theorem byte_cells {B g n cap : Nat} {w : World} {l : List UInt8} (h : w.ownsRow B 5 1 (.slice (some ⟨g, 0, none⟩) n cap) n (Lib.byteCells l)) (hl : l.length = n) (j : Nat) (hj : j < l.length) : w.cell? ⟨g, j, none⟩ = some (.int .u8 (l[j]).toNat) := by
  rw [h.cellAt j (by omega)]
  simp [Lib.byteCells, hj]

theorem mid_of {T n M Hh Hl k g5 cap5 gb capb B : Nat} {w wr X w2 : World} {CS : List Nat} {cv : Value} {ss : List St} {es : List Ent} (hms : MS T wr n M Hh Hl CS cv ss) (hCS : CS.length = k) (hss : ss.length = k) (hT : w.heap.size = T) (hb : Below T w wr)
    (hXb : Below wr.heap.size wr X) (hXC : X.heap[wr.heap.size]? = some (.cells (curCells (.slice (some ⟨gb, 0, none⟩) (encode es).length capb) (-1) false) 38 (0, 0))) (hXs : wr.heap.size + 2 ≤ X.heap.size)
    (hown5 : w2.ownsRow T 35 1 (.slice (some ⟨g5, 0, none⟩) (k + 1) cap5) (k + 1) (CS.map ptr ++ [ptr wr.heap.size])) (hgrow5 : X.grownBy w2 cv.ownBlock) (hat5 : cv.ownBlock = some g5 ∨ g5 = wr.heap.size + 2)
    (hP3 : w.ownsRow B 5 1 (.slice (some ⟨gb, 0, none⟩) (encode es).length capb) (encode es).length (Lib.byteCells (encode es))) (hok : ∀ e ∈ es, e.ok) (hel : es.length ≤ 256) :
    ∃ C cv', MS T (w2.setCell ⟨M, 0, none⟩ (.slice (some ⟨g5, 0, none⟩) (k + 1) cap5)) n M Hh Hl (CS ++ [C]) cv' ss ∧ (∃ cap, Cur (w2.setCell ⟨M, 0, none⟩ (.slice (some ⟨g5, 0, none⟩) (k + 1) cap5)) C gb 0 cap 0 es) ∧ gb < T ∧ Below T w (w2.setCell ⟨M, 0, none⟩ (.slice (some ⟨g5, 0, none⟩) (k + 1) cap5)) := by
  have hTw : T ≤ wr.heap.size := by have := hb.size; omega
  have hgb : gb < T := by rw [← hT]; exact (hP3.lt gb rfl).2
  have hM : M < wr.heap.size := (Array.getElem?_eq_some_iff.1 hms.m).1
  have hA := hms.apart
  have hs2 := hgrow5.size
  have old := old_grown hgrow5 hXb.block
  have hcvT : ∀ g, cv.ownBlock = some g → T ≤ g ∧ g < wr.heap.size := fun g h => hms.own.lt g h
  -- every old block but the cursors' row and the merger's own
  have keep : ∀ j, j < wr.heap.size → some j ≠ cv.ownBlock → j ≠ M → (w2.setCell ⟨M, 0, none⟩ (.slice (some ⟨g5, 0, none⟩) (k + 1) cap5)).heap[j]? = wr.heap[j]? := by
    intro j hj h1 h2
    rw [Below.heap_setCell _ _ _ _ h2, old j hj h1]
  have hCrow : (w2.setCell ⟨M, 0, none⟩ (.slice (some ⟨g5, 0, none⟩) (k + 1) cap5)).heap[wr.heap.size]? = some (.cells (curCells (.slice (some ⟨gb, 0, none⟩) (encode es).length capb) (-1) false) 38 (0, 0)) := by
    rw [Below.heap_setCell _ _ _ _ (show wr.heap.size ≠ M by omega), hgrow5.block _ (by omega) (fun e => by have := (hcvT _ e.symm).2; omega)]
    exact hXC
  have hg5 : g5 ≠ M ∧ g5 ≠ Hh ∧ g5 ≠ Hl ∧ (∀ i, i < CS.length → g5 ≠ CS.getD i 0) ∧ g5 ≠ wr.heap.size := by
    have hHh : Hh < wr.heap.size := by obtain ⟨c, h, _⟩ := hms.heads; exact (Array.getElem?_eq_some_iff.1 h).1
    have hHl : Hl < wr.heap.size := by obtain ⟨c, h, _⟩ := hms.live; exact (Array.getElem?_eq_some_iff.1 h).1
    rcases hat5 with h | h
    · obtain ⟨a, b, c, d⟩ := hA.own g5 h
      exact ⟨a, b, c, d, by have := (hcvT g5 h).2; omega⟩
    · refine ⟨by omega, by omega, by omega, fun i hi => ?_, by omega⟩
      have := (hA.cs i hi).2.1
      omega
  have hbel : Below T w (w2.setCell ⟨M, 0, none⟩ (.slice (some ⟨g5, 0, none⟩) (k + 1) cap5)) := by
    refine Below.setCell ?_ hA.h3 _
    exact hb.trans ⟨hgrow5.os.trans hXb.os, hgrow5.tape.trans hXb.tape, hgrow5.output.trans hXb.output, by omega, fun j hj => old j (by omega) (fun e => by have := (hcvT j e.symm).1; omega)⟩
  have hrow : (w2.setCell ⟨M, 0, none⟩ (.slice (some ⟨g5, 0, none⟩) (k + 1) cap5)).heap[M]? = some (.cells #[.slice (some ⟨g5, 0, none⟩) (k + 1) cap5, .slice (some ⟨Hh, 0, none⟩) n n, .slice (some ⟨Hl, 0, none⟩) n n] 34 (0, 0)) := by
    have h1 : w2.heap[M]? = some (.cells #[cv, .slice (some ⟨Hh, 0, none⟩) n n, .slice (some ⟨Hl, 0, none⟩) n n] 34 (0, 0)) := by
      rw [old M hM (fun e => (hA.own M e.symm).1 rfl)]; exact hms.m
    exact heap_setCell_same w2 M 0 _ 34 _ h1
  have hszX : (w2.setCell ⟨M, 0, none⟩ (.slice (some ⟨g5, 0, none⟩) (k + 1) cap5)).heap.size = w2.heap.size := by simp [World.setCell]
  have hownX : (w2.setCell ⟨M, 0, none⟩ (.slice (some ⟨g5, 0, none⟩) (k + 1) cap5)).ownsRow T 35 1 (.slice (some ⟨g5, 0, none⟩) (k + 1) cap5) (k + 1) (CS.map ptr ++ [ptr wr.heap.size]) :=
    hown5.kept (setCell_grown w2 ⟨M, 0, none⟩ _) (own_ne (fun g h => by simp [Value.ownBlock] at h; rw [← h]; exact hg5.1))
  generalize w2.setCell ⟨M, 0, none⟩ (.slice (some ⟨g5, 0, none⟩) (k + 1) cap5) = Y at keep hCrow hbel hrow hszX hownX ⊢
  have hne : ∀ j, j ≠ M → some j ≠ cv.ownBlock → j < wr.heap.size → Y.heap[j]? = wr.heap[j]? := fun j a b c => keep j c b a
  have hlow : ∀ j, j < T → Y.heap[j]? = wr.heap[j]? := fun j hj => keep j (by omega) (fun e => by have := (hcvT j e.symm).1; omega) (by have := hA.h3; omega)
  have g1 : ∀ i, i < CS.length → (CS ++ [wr.heap.size]).getD i 0 = CS.getD i 0 := fun i hi => by simp only [List.getD]; rw [List.getElem?_append_left hi]
  have g2 : (CS ++ [wr.heap.size]).getD k 0 = wr.heap.size := by simp [List.getD, ← hCS]
  have gl : (CS ++ [wr.heap.size]).length = k + 1 := by simp [hCS]
  refine ⟨wr.heap.size, .slice (some ⟨g5, 0, none⟩) (k + 1) cap5, ⟨hrow, ?_, ?_, ?_, fun i hi => ?_, ?_⟩, ⟨capb, ?_⟩, hgb, hbel⟩
  · rw [gl, List.map_append]; exact hownX
  · have hHh : Hh < wr.heap.size := by obtain ⟨c, h, _⟩ := hms.heads; exact (Array.getElem?_eq_some_iff.1 h).1
    exact hms.heads.keep (hne Hh hA.h5 (fun e => (hA.own Hh e.symm).2.1 rfl) hHh)
  · have hHl : Hl < wr.heap.size := by obtain ⟨c, h, _⟩ := hms.live; exact (Array.getElem?_eq_some_iff.1 h).1
    exact hms.live.keep (hne Hl hA.h6 (fun e => (hA.own Hl e.symm).2.2.1 rfl) hHl)
  · obtain ⟨g, o, cap, hc, hgT⟩ := hms.cur i hi
    rw [g1 i (by omega)]
    have h5 := hA.cs i (by omega)
    exact ⟨g, o, cap, hc.keep (hne _ h5.2.2.1 (fun e => (hA.own _ e.symm).2.2.2 i (by omega) rfl) h5.2.1) (hlow g hgT), hgT⟩
  · refine ⟨hA.h1, hA.h2, hA.h3, hA.h4, hA.h5, hA.h6, fun i hi => ?_, fun i j hij hj => ?_, fun g h => ?_⟩
    · by_cases e : i = k
      · subst e
        rw [g2]
        have hHh : Hh < wr.heap.size := by obtain ⟨c, h, _⟩ := hms.heads; exact (Array.getElem?_eq_some_iff.1 h).1
        have hHl : Hl < wr.heap.size := by obtain ⟨c, h, _⟩ := hms.live; exact (Array.getElem?_eq_some_iff.1 h).1
        exact ⟨hTw, by omega, by omega, by omega, by omega⟩
      · rw [g1 i (by omega)]
        have h5 := hA.cs i (by omega)
        exact ⟨h5.1, by omega, h5.2.2⟩
    · rw [g1 i (by omega)]
      by_cases e : j = k
      · subst e
        rw [g2]
        have h5 := (hA.cs i (by omega)).2.1
        omega
      · rw [g1 j (by omega)]
        exact hA.nodup i j hij (by omega)
    · simp [Value.ownBlock] at h
      subst h
      refine ⟨hg5.1, hg5.2.1, hg5.2.2.1, fun i hi => ?_⟩
      by_cases e : i = k
      · subst e; rw [g2]; exact hg5.2.2.2.2
      · rw [g1 i (by omega)]; exact hg5.2.2.2.1 i (by omega)
  · refine ⟨hCrow, hok, ?_, by omega, hel, fun j hj => ?_, by omega⟩
    · rcases hP3.2 with ⟨h, _⟩ | ⟨g, c, cur, h, _, _, h6, _⟩
      · cases h
      · simp only [Value.slice.injEq, Option.some.injEq, Addr.mk.injEq, and_true, true_and] at h
        obtain ⟨_, rfl⟩ := h
        exact h6
    · have h1 := byte_cells hP3 rfl j hj
      rw [Nat.zero_add, hbel.cell (show gb < T from hgb)]
      exact h1

/-- The merger, one point's head, mark and cursor set anew. -/
theorem ms_set {T n M Hh Hl i o' cap' g0 : Nat} {wc w1 : World} {CS : List Nat} {cv : Value} {ss ss' : List St} {st : St} (hms : MS T wc n M Hh Hl CS cv ss) (hi : i < CS.length) (hin : i < n) (hg : wc.grownBy w1 (some (CS.getD i 0)))
    (hc : Cur w1 (CS.getD i 0) g0 o' cap' st.nxt st.rest) (hg0 : g0 < T) (hl : ss'.length ≤ CS.length) (hst : ss'.getD i dSt = st) (hoth : ∀ j, j < ss'.length → j ≠ i → j < ss.length ∧ ss'.getD j dSt = ss.getD j dSt) (nn : Nat) :
    MS T (((((w1.setCell ⟨Hh, i * 3, none⟩ (.int .i64 st.head.idx)).setCell ⟨Hh, i * 3 + 1, none⟩ (.bool st.head.zeros)).setCell ⟨Hh, i * 3 + 2, none⟩ (.int .u32 st.head.crc)).setCell ⟨Hl, i, none⟩ (.bool st.live)).drewN nn) n M Hh Hl CS cv ss' ∧ Below T wc (((((w1.setCell ⟨Hh, i * 3, none⟩ (.int .i64 st.head.idx)).setCell ⟨Hh, i * 3 + 1, none⟩ (.bool st.head.zeros)).setCell ⟨Hh, i * 3 + 2, none⟩ (.int .u32 st.head.crc)).setCell ⟨Hl, i, none⟩ (.bool st.live)).drewN nn) := by
  have hA := hms.apart
  have hCi := hA.cs i hi
  have hM : M < wc.heap.size := (Array.getElem?_eq_some_iff.1 hms.m).1
  obtain ⟨hcur, hh1, hh2, hh3⟩ := hms.heads
  obtain ⟨lcur, hl1, hl2, hl3⟩ := hms.live
  have hHh : Hh < wc.heap.size := (Array.getElem?_eq_some_iff.1 hh1).1
  have hHl : Hl < wc.heap.size := (Array.getElem?_eq_some_iff.1 hl1).1
  have hh1' : w1.heap[Hh]? = some (.cells hcur 41 (0, 0)) := by rw [hg.block Hh hHh (by simp; exact fun e => hCi.2.2.2.1 e.symm)]; exact hh1
  have hl1' : w1.heap[Hl]? = some (.cells lcur 4 (0, 0)) := by rw [hg.block Hl hHl (by simp; exact fun e => hCi.2.2.2.2 e.symm)]; exact hl1
  have a1 := heap_setCell_same w1 Hh (i * 3) _ 41 (.int .i64 st.head.idx) hh1'
  have a2 := heap_setCell_same _ Hh (i * 3 + 1) _ 41 (.bool st.head.zeros) a1
  have a3 := heap_setCell_same _ Hh (i * 3 + 2) _ 41 (.int .u32 st.head.crc) a2
  have b1 : (((w1.setCell ⟨Hh, i * 3, none⟩ (.int .i64 st.head.idx)).setCell ⟨Hh, i * 3 + 1, none⟩ (.bool st.head.zeros)).setCell ⟨Hh, i * 3 + 2, none⟩ (.int .u32 st.head.crc)).heap[Hl]? = some (.cells lcur 4 (0, 0)) := by
    rw [Below.heap_setCell _ _ _ _ hA.h4.symm, Below.heap_setCell _ _ _ _ hA.h4.symm, Below.heap_setCell _ _ _ _ hA.h4.symm]; exact hl1'
  have b2 := heap_setCell_same _ Hl i _ 4 (.bool st.live) b1
  have a4 : ((((w1.setCell ⟨Hh, i * 3, none⟩ (.int .i64 st.head.idx)).setCell ⟨Hh, i * 3 + 1, none⟩ (.bool st.head.zeros)).setCell ⟨Hh, i * 3 + 2, none⟩ (.int .u32 st.head.crc)).setCell ⟨Hl, i, none⟩ (.bool st.live)).heap[Hh]? = some (.cells (((hcur.setIfInBounds (i * 3) (.int .i64 st.head.idx)).setIfInBounds (i * 3 + 1) (.bool st.head.zeros)).setIfInBounds (i * 3 + 2) (.int .u32 st.head.crc)) 41 (0, 0)) := by
    rw [Below.heap_setCell _ _ _ _ hA.h4]; exact a3
  have far : ∀ j, j ≠ Hh → j ≠ Hl → ((((w1.setCell ⟨Hh, i * 3, none⟩ (.int .i64 st.head.idx)).setCell ⟨Hh, i * 3 + 1, none⟩ (.bool st.head.zeros)).setCell ⟨Hh, i * 3 + 2, none⟩ (.int .u32 st.head.crc)).setCell ⟨Hl, i, none⟩ (.bool st.live)).heap[j]? = w1.heap[j]? := by
    intro j h1 h2
    rw [Below.heap_setCell _ _ _ _ h2, Below.heap_setCell _ _ _ _ h1, Below.heap_setCell _ _ _ _ h1, Below.heap_setCell _ _ _ _ h1]
  have hsz : ((((w1.setCell ⟨Hh, i * 3, none⟩ (.int .i64 st.head.idx)).setCell ⟨Hh, i * 3 + 1, none⟩ (.bool st.head.zeros)).setCell ⟨Hh, i * 3 + 2, none⟩ (.int .u32 st.head.crc)).setCell ⟨Hl, i, none⟩ (.bool st.live)).heap.size = w1.heap.size := by simp [World.setCell]
  have hbel0 : Below T wc w1 := below_of_grown hg (by have := hA.h3; omega) (fun k h => by cases h; exact hCi.1)
  have hbel : Below T wc ((((w1.setCell ⟨Hh, i * 3, none⟩ (.int .i64 st.head.idx)).setCell ⟨Hh, i * 3 + 1, none⟩ (.bool st.head.zeros)).setCell ⟨Hh, i * 3 + 2, none⟩ (.int .u32 st.head.crc)).setCell ⟨Hl, i, none⟩ (.bool st.live)) :=
    (((hbel0.setCell hA.h1 _).setCell hA.h1 _).setCell hA.h1 _).setCell hA.h2 _
  generalize (((w1.setCell ⟨Hh, i * 3, none⟩ (.int .i64 st.head.idx)).setCell ⟨Hh, i * 3 + 1, none⟩ (.bool st.head.zeros)).setCell ⟨Hh, i * 3 + 2, none⟩ (.int .u32 st.head.crc)).setCell ⟨Hl, i, none⟩ (.bool st.live) = Y at b2 a4 far hsz hbel ⊢
  have hs1 := hg.size
  have keep : ∀ j, j < wc.heap.size → j ≠ Hh → j ≠ Hl → j ≠ CS.getD i 0 → Y.heap[j]? = wc.heap[j]? := fun j h1 h2 h3 h4 => by rw [far j h2 h3, hg.block j h1 (by simp; exact h4)]
  refine ⟨⟨?_, ?_, ⟨_, a4, by simpa using hh2, fun j hj => ?_⟩, ⟨_, b2, by simpa using hl2, fun j hj => ?_⟩, fun j hj => ?_, ?_⟩, ⟨hbel.os, hbel.tape, hbel.output, hbel.size, hbel.block⟩⟩
  · show Y.heap[M]? = _
    rw [keep M hM hA.h5.symm hA.h6.symm (fun e => hCi.2.2.1 e.symm)]; exact hms.m
  · have ho := hms.own
    refine ⟨ho.1, ?_⟩
    rcases ho.2 with h | ⟨g, cap, cur, h1, h2, h3, h4⟩
    · exact .inl h
    · obtain ⟨q1, q2, q3, q4⟩ := hA.own g (by rw [h1]; rfl)
      exact .inr ⟨g, cap, cur, h1, h2, by show Y.heap[g]? = _; rw [keep g (Array.getElem?_eq_some_iff.1 h3).1 q2 q3 (q4 i hi)]; exact h3, h4⟩
  · have hin3 : i * 3 + 2 < hcur.size := by omega
    by_cases e : j = i
    · subst e
      have hd : (ss'.getD j ⟨false, ⟨0, false, 0⟩, 0, []⟩) = st := hst
      rw [hd]
      refine ⟨?_, ?_, ?_⟩
      · rw [Array.getElem?_setIfInBounds, if_neg (by omega), Array.getElem?_setIfInBounds, if_neg (by omega), Array.getElem?_setIfInBounds, if_pos rfl, if_pos (by omega)]
      · rw [Array.getElem?_setIfInBounds, if_neg (by omega), Array.getElem?_setIfInBounds, if_pos rfl, if_pos (by simp; omega)]
      · rw [Array.getElem?_setIfInBounds, if_pos rfl, if_pos (by simp; omega)]
    · obtain ⟨h1, h2⟩ := hoth j hj e
      have h2' : (ss'.getD j ⟨false, ⟨0, false, 0⟩, 0, []⟩) = ss.getD j ⟨false, ⟨0, false, 0⟩, 0, []⟩ := h2
      rw [h2']
      have h3 := hh3 j h1
      refine ⟨?_, ?_, ?_⟩
      · rw [Array.getElem?_setIfInBounds, if_neg (by omega), Array.getElem?_setIfInBounds, if_neg (by omega), Array.getElem?_setIfInBounds, if_neg (by omega)]; exact h3.1
      · rw [Array.getElem?_setIfInBounds, if_neg (by omega), Array.getElem?_setIfInBounds, if_neg (by omega), Array.getElem?_setIfInBounds, if_neg (by omega)]; exact h3.2.1
      · rw [Array.getElem?_setIfInBounds, if_neg (by omega), Array.getElem?_setIfInBounds, if_neg (by omega), Array.getElem?_setIfInBounds, if_neg (by omega)]; exact h3.2.2
  · rw [Array.getElem?_setIfInBounds]
    by_cases e : j = i
    · subst e
      have hd : (ss'.getD j ⟨false, ⟨0, false, 0⟩, 0, []⟩) = st := hst
      rw [hd, if_pos rfl, if_pos (by omega)]
    · obtain ⟨h1, h2⟩ := hoth j hj e
      have h2' : (ss'.getD j ⟨false, ⟨0, false, 0⟩, 0, []⟩) = ss.getD j ⟨false, ⟨0, false, 0⟩, 0, []⟩ := h2
      rw [h2', if_neg (by omega)]
      exact hl3 j h1
  · by_cases e : j = i
    · subst e
      rw [hst]
      refine ⟨g0, o', cap', ?_, hg0⟩
      have : (Y.drewN nn).heap = Y.heap := rfl
      exact hc.keep (by rw [this]; exact far _ hCi.2.2.2.1 hCi.2.2.2.2) (by rw [this]; exact far g0 (by have := hA.h1; omega) (by have := hA.h2; omega))
    · obtain ⟨h1, h2⟩ := hoth j hj e
      rw [h2]
      obtain ⟨g, o, cap, h3, h4⟩ := hms.cur j h1
      have hCj := hA.cs j (by omega)
      have hdist : CS.getD j 0 ≠ CS.getD i 0 := by
        rcases Nat.lt_or_gt_of_ne e with h5 | h5
        · exact hA.nodup j i h5 hi
        · exact (hA.nodup i j h5 (by omega)).symm
      have : (Y.drewN nn).heap = Y.heap := rfl
      exact ⟨g, o, cap, h3.keep (by rw [this]; exact keep _ hCj.2.1 hCj.2.2.2.1 hCj.2.2.2.2 hdist) (by rw [this]; exact keep g (by have := hA.h3; omega) (by have := hA.h1; omega) (by have := hA.h2; omega) (by have := hCi.1; omega)), h4⟩
  · refine ⟨hA.h1, hA.h2, hA.h3, hA.h4, hA.h5, hA.h6, fun j hj => ?_, hA.nodup, hA.own⟩
    have h5 := hA.cs j hj
    refine ⟨h5.1, ?_, h5.2.2⟩
    show _ < Y.heap.size
    omega
end Go.Proofs.Ybulkbmoi
