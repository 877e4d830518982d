/-
  (*sumsCursor).next: the next entry, or none.
-/
import Derived.Test.YbulkbmoiCursor
import Derived.Test.YbulkbmoiShelf
namespace Go.Proofs.Ybulkbmoi
open Go.RowKit Go

/-- A cursor that stands ahead of the entries es, nxt the cluster behind the last one read. -/
structure Cur (w : World) (C : Nat) (g o cap nxt : Nat) (es : List Ent) : Prop where
  row : w.heap[C]? = some (.cells (curCells (.slice (some ⟨g, o, none⟩) (encode es).length cap) ((nxt : Int) - 1) false) 38 (0, 0))
  ok : ∀ e ∈ es, e.ok
  room : (encode es).length ≤ cap
  small : nxt + 65536 * es.length ≤ 33554432
  len : es.length ≤ 256
  bytes : ∀ j (h : j < (encode es).length), w.cell? ⟨g, o + j, none⟩ = some (.int .u8 ((encode es)[j]).toNat)
  apart : g ≠ C

theorem Cur.cells {w : World} {C g o cap nxt : Nat} {es : List Ent} (h : Cur w C g o cap nxt es) : w.cell? ⟨C, 0, none⟩ = some (.slice (some ⟨g, o, none⟩) (encode es).length cap) ∧ w.cell? ⟨C, 1, none⟩ = some (.int .i64 17179869184) ∧ w.cell? ⟨C, 2, none⟩ = some (.int .i64 ((nxt : Int) - 1)) ∧ w.cell? ⟨C, 3, none⟩ = some (.bool false) ∧ (∀ j, w.frozen? ⟨C, j, none⟩ = false) ∧ C < w.heap.size := by
  refine ⟨?_, ?_, ?_, ?_, fun j => frozen_of_row w C j _ 38 h.row, (Array.getElem?_eq_some_iff.1 h.row).1⟩ <;> rw [cell_of_row w C _ _ 38 (0, 0) h.row] <;> rfl

theorem uv_zero (g o n c : Nat) (l : List UInt8) (w : World) (hl : l.length = n) (hcell : ∀ j (hj : j < l.length), w.cell? ⟨g, o + j, none⟩ = some (.int .u8 (l[j]).toNat)) (hd : Lib.uvarintDec l = (0, 1)) :
    Calls Yba.prog 17 #[.slice (some ⟨g, o, none⟩) n c] w fun e w' => e = .returned (.tuple #[.int .u64 0, .int .i64 1]) ∧ w = w' := by
  refine (Yba.binary_Uvarint g o n c l w hl hcell).mono fun e w' h => ?_
  obtain ⟨he, hw⟩ := h
  rw [hd] at he
  exact ⟨he, hw.symm⟩

theorem uv_num (g o n c x k : Nat) (l : List UInt8) (w : World) (hl : l.length = n) (hcell : ∀ j (hj : j < l.length), w.cell? ⟨g, o + j, none⟩ = some (.int .u8 (l[j]).toNat)) (hd : Lib.uvarintDec l = (x, (k : Int))) :
    Calls Yba.prog 17 #[.slice (some ⟨g, o, none⟩) n c] w fun e w' => e = .returned (.tuple #[.int .u64 x, .int .i64 k]) ∧ w = w' := by
  refine (Yba.binary_Uvarint g o n c l w hl hcell).mono fun e w' h => ?_
  obtain ⟨he, hw⟩ := h
  rw [hd] at he
  exact ⟨he, hw.symm⟩

set_option maxHeartbeats 1000000 in
theorem next_none (C g o cap nxt : Nat) (w : World) (h : Cur w C g o cap nxt []) :
    Calls Yba.prog 13 #[.pointer (some ⟨C, 0, none⟩)] w fun e w' => e = .returned (.tuple #[.agg #[.int .i64 0, .bool false, .int .u32 0], .bool false]) ∧ Below w.heap.size w w' := by
  obtain ⟨c0, c1, c2, c3, cf, cl⟩ := h.cells
  have hby := h.bytes
  have hd : Lib.uvarintDec (encode []) = (0, 1) := dec_zero []
  have hl : (encode []).length = 1 := rfl
  rw [hl] at c0
  have hby' : ∀ o', ∀ j (hj : j < (encode []).length), (w.alloc o').cell? ⟨g, o + j, none⟩ = some (.int .u8 ((encode [])[j]).toNat) := fun o' j hj => Lib.cell?_alloc_some _ (hby j hj)
  clear hby
  go_enter Yba.func13, Yba.ntmps13
  go_wp2_with fail
  refine (uv_zero g o 1 cap (encode []) _ rfl (hby' _) hd).mono ?_
  rintro e w1 ⟨rfl, rfl⟩
  clear hd hl hby'
  go_wp2_with fail
  exact bodyPost_ret (v := .tuple #[.agg #[.int .i64 0, .bool false, .int .u32 0], .bool false]) (by simp [results, Yba.results13, go_sem]) rfl ⟨rfl, (Below.refl _ _).alloc (Nat.le_refl _) _⟩

theorem and_one (n : Nat) (h : n < 18446744073709551616) : bits .and .u64 (n : Int) 1 = ((n % 2 : Nat) : Int) := by
  have h1 := (bits_nat .u64 64 (by decide) wraps_u64 n 1 (by omega) (by decide)).1
  rw [Nat.and_one_is_mod] at h1
  exact h1

theorem w2_facts {w W2 : World} {q nq : Nat} {a b c : Value} (hq : q = w.heap.size) (hW : W2 = ((w.alloc (.cells #[.int .i64 0, .bool false, .int .u32 0] 41)).drewN nq).alloc (.cells #[a, b, c] 41)) :
    (∀ j, j < w.heap.size → W2.heap[j]? = w.heap[j]?) ∧ (∀ p : Addr, p.block < w.heap.size → W2.cell? p = w.cell? p) ∧ (∀ p : Addr, p.block < w.heap.size → W2.frozen? p = w.frozen? p) ∧
    W2.cell? ⟨q + 1, 0, none⟩ = some a ∧ W2.cell? ⟨q + 1, 1, none⟩ = some b ∧ W2.cell? ⟨q + 1, 2, none⟩ = some c ∧
    (∃ v, W2.cell? ⟨q, 0, none⟩ = some v) ∧ (∃ v, W2.cell? ⟨q, 1, none⟩ = some v) ∧ (∃ v, W2.cell? ⟨q, 2, none⟩ = some v) ∧ W2.frozen? ⟨q, 0, none⟩ = false ∧ W2.frozen? ⟨q, 1, none⟩ = false ∧ W2.frozen? ⟨q, 2, none⟩ = false ∧ w.grownBy W2 none ∧ W2.frozen? ⟨q + 1, 2, none⟩ = false ∧ W2.heap.size = q + 2 := by
  subst hq
  have hb : ∀ j, j < w.heap.size → W2.heap[j]? = w.heap[j]? := by
    intro j hj
    rw [hW, heap_alloc_old _ _ (by simp; omega)]
    show (w.alloc _).heap[j]? = _
    rw [heap_alloc_old _ _ hj]
  refine ⟨hb, fun p hp => World.cell?_of_block (w := w) (hb _ hp), fun p hp => World.frozen?_of_block (w := w) (hb _ hp), ?_, ?_, ?_, ?_, ?_, ?_, ?_, ?_, ?_, ?_, ?_, ?_⟩
  all_goals subst hW
  · go_simp
  · go_simp
  · go_simp
  · exact ⟨.int .i64 0, by go_simp⟩
  · exact ⟨.bool false, by go_simp⟩
  · exact ⟨.int .u32 0, by go_simp⟩
  · go_simp
  · go_simp
  · go_simp
  · exact ⟨rfl, rfl, rfl, by simp; omega, fun j hj _ => hb j hj⟩
  · go_simp
  · simp

theorem grown_more {w w1 w2 : World} {r : Option Nat} {b C : Nat} (h : w.grownBy w1 r) (hr : r = none ∨ r = some C) (k : w1.grownBy w2 (some b)) (hb : b = C ∨ w.heap.size ≤ b) : w.grownBy w2 (some C) :=
  ⟨k.os.trans h.os, k.tape.trans h.tape, k.output.trans h.output, Nat.le_trans h.size k.size, fun i hi hne => by
    rw [k.block i (Nat.lt_of_lt_of_le hi h.size) (fun e => by
      cases e
      rcases hb with e | e
      · exact hne (by rw [e])
      · omega)]
    refine h.block i hi ?_
    rcases hr with rfl | rfl
    · simp
    · exact hne⟩

theorem grown_drewN {w w1 : World} {r : Option Nat} (h : w.grownBy w1 r) (n : Nat) : w.grownBy (w1.drewN n) r := ⟨h.os, h.tape, h.output, h.size, h.block⟩

/-- The cursor's row and the result's cell, stored. -/
def stored5 (W2 : World) (C q : Nat) (a b x0 x1 x2 : Value) : World := ((((W2.setCell ⟨C, 0, none⟩ a).setCell ⟨C, 2, none⟩ b).setCell ⟨q, 0, none⟩ x0).setCell ⟨q, 1, none⟩ x1).setCell ⟨q, 2, none⟩ x2

theorem stored5_grown {w W2 : World} {C q : Nat} {a b x0 x1 x2 : Value} (hgr : w.grownBy W2 none) (hq : w.heap.size ≤ q) : w.grownBy (stored5 W2 C q a b x0 x1 x2) (some C) := by
  unfold stored5
  refine grown_more (b := q) (grown_more (b := q) (grown_more (b := q) (grown_more (b := C) (grown_more (b := C) hgr (.inl rfl) (setCell_grown _ _ _) (.inl rfl)) (.inr rfl) (setCell_grown _ _ _) (.inl rfl)) (.inr rfl) (setCell_grown _ _ _) (.inr hq)) (.inr rfl) (setCell_grown _ _ _) (.inr hq)) (.inr rfl) (setCell_grown _ _ _) (.inr hq)

theorem stored5_row {W2 : World} {C q : Nat} {e0 a b x0 x1 x2 : Value} {l0 : Int} (hrow : W2.heap[C]? = some (.cells (curCells e0 l0 false) 38 (0, 0))) (hne : C ≠ q) {l : Int} (hb : b = .int .i64 l) : (stored5 W2 C q a b x0 x1 x2).heap[C]? = some (.cells (curCells a l false) 38 (0, 0)) := by
  unfold stored5
  have h1 := heap_setCell_same W2 C 0 _ 38 a hrow
  have h2 := heap_setCell_same _ C 2 _ 38 b h1
  rw [Below.heap_setCell _ _ _ _ hne, Below.heap_setCell _ _ _ _ hne, Below.heap_setCell _ _ _ _ hne, h2, hb]
  rfl

theorem fin_cur {w W2 : World} {C g o cap nxt q : Nat} {E : Ent} {es : List Ent} {x0 x1 x2 : Value} (H : Cur w C g o cap nxt (E :: es)) (hq : q = w.heap.size) (hgr : w.grownBy W2 none) (n : Nat) :
    w.grownBy ((stored5 W2 C q (.slice (some ⟨g, o + (code E).length, none⟩) (encode es).length (cap - (code E).length)) (.int .i64 ((nxt : Int) + E.gap)) x0 x1 x2).drewN n) (some C) ∧
    Cur ((stored5 W2 C q (.slice (some ⟨g, o + (code E).length, none⟩) (encode es).length (cap - (code E).length)) (.int .i64 ((nxt : Int) + E.gap)) x0 x1 x2).drewN n) C g (o + (code E).length) (cap - (code E).length) (nxt + E.gap + 1) es := by
  have hC : C < w.heap.size := (Array.getElem?_eq_some_iff.1 H.row).1
  have hrow : W2.heap[C]? = some (.cells (curCells (.slice (some ⟨g, o, none⟩) (encode (E :: es)).length cap) ((nxt : Int) - 1) false) 38 (0, 0)) := by rw [hgr.block C hC (by simp)]; exact H.row
  have hl : (encode (E :: es)).length = (code E).length + (encode es).length := by unfold encode; rw [codes_cons]; simp
  have hr5 := stored5_row (q := q) (a := .slice (some ⟨g, o + (code E).length, none⟩) (encode es).length (cap - (code E).length)) (b := .int .i64 ((nxt : Int) + E.gap)) (x0 := x0) (x1 := x1) (x2 := x2) hrow (by omega) rfl
  have hg5 := stored5_grown (C := C) (q := q) (a := .slice (some ⟨g, o + (code E).length, none⟩) (encode es).length (cap - (code E).length)) (b := .int .i64 ((nxt : Int) + E.gap)) (x0 := x0) (x1 := x1) (x2 := x2) hgr (by omega)
  generalize stored5 W2 C q (.slice (some ⟨g, o + (code E).length, none⟩) (encode es).length (cap - (code E).length)) (.int .i64 ((nxt : Int) + E.gap)) x0 x1 x2 = X at hr5 hg5 ⊢
  have hgX := grown_drewN hg5 n
  refine ⟨hgX, ?_, fun e he => H.ok e (by simp [he]), ?_, ?_, ?_, fun j hj => ?_, H.apart⟩
  · have e : (((nxt + E.gap + 1 : Nat) : Int) - 1) = (nxt : Int) + E.gap := by omega
    rw [e]
    exact hr5
  · have := H.room; omega
  · have h3 := H.small
    have h4 := (H.ok E (by simp)).1
    simp only [List.length_cons] at h3
    omega
  · have := H.len; simp only [List.length_cons] at this; omega
  · have hj' : (code E).length + j < (encode (E :: es)).length := by omega
    have h5 := H.bytes ((code E).length + j) hj'
    have e1 : (encode (E :: es))[(code E).length + j] = (encode es)[j] := by
      have e2 : encode (E :: es) = code E ++ encode es := by unfold encode; rw [codes_cons, List.append_assoc]
      simp only [e2]
      rw [List.getElem_append_right (by omega)]
      simp
    rw [e1, ← Nat.add_assoc] at h5
    exact hgX.cell h5 (by simp; exact H.apart)

set_option maxHeartbeats 1000000 in
set_option maxRecDepth 100000 in
theorem next_z (C g o cap nxt : Nat) (E : Ent) (es : List Ent) (w : World) (h : Cur w C g o cap nxt (E :: es)) (hz : E.zeros = true) :
    Calls Yba.prog 13 #[.pointer (some ⟨C, 0, none⟩)] w fun e w' => e = .returned (.tuple #[.agg #[.int .i64 ((nxt : Int) + E.gap), .bool true, .int .u32 0], .bool true]) ∧ w.grownBy w' (some C) ∧ Cur w' C g (o + (code E).length) (cap - (code E).length) (nxt + E.gap + 1) es := by
  obtain ⟨c0, c1, c2, c3, cf, cl⟩ := h.cells
  obtain ⟨hg, hc⟩ := h.ok E (by simp)
  have hco := code_len E ⟨hg, hc⟩
  have hen : encode (E :: es) = Lib.uvarint (numOf E) ++ encode es := by unfold encode; rw [codes_cons, code_z hz, List.append_assoc]
  have hcz := code_z hz
  have hd : Lib.uvarintDec (encode (E :: es)) = (numOf E, ((code E).length : Int)) := by rw [hen, hcz]; exact dec_uvarint _ _ (by have := numOf_lt E ⟨hg, hc⟩; omega)
  have hl : (encode (E :: es)).length = (code E).length + (encode es).length := by rw [hen, hcz]; simp
  have hby := h.bytes
  have hrm := h.room
  have hsm := h.small
  have hpos : 1 ≤ (encode es).length := by simp [encode]
  have huv0 := fun (o' : Obj) => uv_num g o (encode (E :: es)).length cap (numOf E) (code E).length (encode (E :: es)) (w.alloc o') rfl (fun j hj => Lib.cell?_alloc_some _ (hby j hj)) hd
  have hnum : numOf E = 2 * E.gap + 2 := by unfold numOf; rw [hz]; rfl
  have hnx : nxt ≤ 33554432 := by omega
  have H : Hid (Cur w C g o cap nxt (E :: es)) := h
  clear hby hd hen hsm h
  rw [hl] at c0 hrm huv0
  generalize hk : (code E).length = k at c0 hrm huv0 hco hl ⊢
  generalize hLL : (encode es).length = LL at c0 hrm huv0 hpos hl
  generalize hx : numOf E = x at huv0 hnum
  have HUV : ∀ o', Hid (Calls Yba.prog 17 #[.slice (some ⟨g, o, none⟩) (k + LL) cap] (w.alloc o') fun e w' => e = .returned (.tuple #[.int .u64 x, .int .i64 k]) ∧ w.alloc o' = w') := fun o' => huv0 o'
  clear huv0 hx hcz
  have hk : Hid ((code E).length = k) := hk
  have hLL : Hid ((encode es).length = LL) := hLL
  have hx1 : 1 ≤ x := by omega
  have hx2 : x ≤ 131072 := by omega
  have HX : Hid (x = 2 * E.gap + 2) := hnum
  clear hnum hl
  go_enter Yba.func13, Yba.ntmps13
  go_wp2_with fail
  refine Calls.mono (Hid.out (HUV _)) ?_
  rintro e w1 ⟨rfl, rfl⟩
  clear HUV
  have hgp : ((x : Int) - 1) / 2 = E.gap := by have := HX.out; omega
  have hand : bits .and .u64 ((x : Int) - 1) 1 = 1 := by
    have h1 := and_one (x - 1) (by omega)
    have e1 : ((x - 1 : Nat) : Int) = (x : Int) - 1 := by omega
    have e2 : (x - 1) % 2 = 1 := by have := HX.out; omega
    rw [e1, e2] at h1
    exact h1
  go_wp2_with fail
  go_quiet (fail)
  go_wp2_with fail
  obtain ⟨W2, hW2⟩ : ∃ W2, W2 = ((w.alloc (.cells #[.int .i64 0, .bool false, .int .u32 0] 41)).drewN nq).alloc (.cells #[.int .i64 ((nxt : Int) + E.gap), .bool true, .int .u32 0] 41) := ⟨_, rfl⟩
  rw [← hW2]
  obtain ⟨q, hq⟩ : ∃ q, q = w.heap.size := ⟨_, rfl⟩
  rw [← hq]
  have F := w2_facts hq hW2
  have hr := F.1 C cl
  have d0 := (F.2.1 ⟨C, 0, none⟩ cl).trans c0
  have d2 := (F.2.1 ⟨C, 2, none⟩ cl).trans c2
  have df0 := (F.2.2.1 ⟨C, 0, none⟩ cl).trans (cf 0)
  have df2 := (F.2.2.1 ⟨C, 2, none⟩ cl).trans (cf 2)
  obtain ⟨_, _, _, s0, s1, s2, ⟨y0, z0⟩, ⟨y1, z1⟩, ⟨y2, z2⟩, zf0, zf1, zf2, hgr, _, _⟩ := F
  have hCq : C < q := by omega
  have HQ : Hid (q = w.heap.size) := hq
  clear hW2 hq cl
  go_region
  go_wp2_with fail
  have HF := fin_cur (x0 := .int .i64 ((nxt : Int) + E.gap)) (x1 := .bool true) (x2 := .int .u32 0) H.out HQ.out hgr 1
  rw [hk.out, hLL.out] at HF
  exact bodyPost_ret (v := .tuple #[.agg #[.int .i64 ((nxt : Int) + E.gap), .bool true, .int .u32 0], .bool true]) (by simp [results, Yba.results13, go_sem, z0, z1, z2]) rfl ⟨rfl, HF⟩

theorem u32_any (g o n c v : Nat) (hv : v < 4294967296) (w : World) (hn : 4 ≤ n) (hcell : ∀ j, j < 4 → w.cell? ⟨g, o + j, none⟩ = some (.int .u8 ((Lib.beBytes 4 v).getD j 0).toNat)) :
    Calls Yba.prog 18 #[.agg #[], .slice (some ⟨g, o, none⟩) n c] w fun e w' => e = .returned (.int .u32 v) ∧ Below w.heap.size w w' := by
  have hl : (Lib.beBytes 4 v).length = 4 := Lib.beBytes_length 4 v
  have hbe := Lib.beNat_beBytes 4 v (by omega)
  generalize Lib.beBytes 4 v = l at hl hbe hcell
  match l, hl with
  | [b0, b1, b2, b3], _ =>
    have h := Yba.binary_BE_Uint32 g o n c b0 b1 b2 b3 w hn (hcell 0 (by omega)) (hcell 1 (by omega)) (hcell 2 (by omega)) (hcell 3 (by omega))
    rw [hbe] at h
    exact h

/-- What the walk reads behind BE.Uint32. -/
theorem w5_facts {W2 w5 : World} (hb : Below W2.heap.size W2 w5) {C q : Nat} (hC : C < W2.heap.size) (hq : q + 1 < W2.heap.size) :
    (∀ j, w5.cell? ⟨C, j, none⟩ = W2.cell? ⟨C, j, none⟩) ∧ (∀ j, w5.frozen? ⟨C, j, none⟩ = W2.frozen? ⟨C, j, none⟩) ∧ (∀ j, w5.cell? ⟨q, j, none⟩ = W2.cell? ⟨q, j, none⟩) ∧ (∀ j, w5.frozen? ⟨q, j, none⟩ = W2.frozen? ⟨q, j, none⟩) ∧
    (∀ j, w5.cell? ⟨q + 1, j, none⟩ = W2.cell? ⟨q + 1, j, none⟩) ∧ (∀ j, w5.frozen? ⟨q + 1, j, none⟩ = W2.frozen? ⟨q + 1, j, none⟩) :=
  ⟨fun _ => hb.cell hC, fun _ => hb.frozen hC, fun _ => hb.cell (show q < _ by omega), fun _ => hb.frozen (show q < _ by omega), fun _ => hb.cell hq, fun _ => hb.frozen hq⟩

set_option maxHeartbeats 1000000 in
set_option maxRecDepth 100000 in
theorem next_nz (C g o cap nxt : Nat) (E : Ent) (es : List Ent) (w : World) (h : Cur w C g o cap nxt (E :: es)) (hz : E.zeros = false) :
    Calls Yba.prog 13 #[.pointer (some ⟨C, 0, none⟩)] w fun e w' => e = .returned (.tuple #[.agg #[.int .i64 ((nxt : Int) + E.gap), .bool false, .int .u32 E.crc], .bool true]) ∧ w.grownBy w' (some C) ∧ Cur w' C g (o + (code E).length) (cap - (code E).length) (nxt + E.gap + 1) es := by
  obtain ⟨c0, c1, c2, c3, cf, cl⟩ := h.cells
  obtain ⟨hg, hc⟩ := h.ok E (by simp)
  have hco := code_len E ⟨hg, hc⟩
  have hcz := code_nz hz
  have hen : encode (E :: es) = Lib.uvarint (numOf E) ++ (Lib.beBytes 4 E.crc ++ encode es) := by unfold encode; rw [codes_cons, hcz, List.append_assoc, List.append_assoc]
  have hd : Lib.uvarintDec (encode (E :: es)) = (numOf E, ((Lib.uvarint (numOf E)).length : Int)) := by rw [hen]; exact dec_uvarint _ _ (by have := numOf_lt E ⟨hg, hc⟩; omega)
  have hkk : (code E).length = (Lib.uvarint (numOf E)).length + 4 := by rw [hcz, List.length_append, Lib.beBytes_length]
  have hl : (encode (E :: es)).length = (Lib.uvarint (numOf E)).length + (4 + (encode es).length) := by rw [hen, List.length_append, List.length_append, Lib.beBytes_length]
  have hby := h.bytes
  have hrm := h.room
  have hsm := h.small
  have hgl : g < w.heap.size := World.block_lt_of_cell? w _ (hby 0 (by omega))
  have hpos : 1 ≤ (encode es).length := by simp [encode]
  have huv0 := fun (o' : Obj) => uv_num g o (encode (E :: es)).length cap (numOf E) (Lib.uvarint (numOf E)).length (encode (E :: es)) (w.alloc o') rfl (fun j hj => Lib.cell?_alloc_some _ (hby j hj)) hd
  have hcb : ∀ j, j < 4 → w.cell? ⟨g, o + (Lib.uvarint (numOf E)).length + j, none⟩ = some (.int .u8 ((Lib.beBytes 4 E.crc).getD j 0).toNat) := by
    intro j hj
    have h5 := hby ((Lib.uvarint (numOf E)).length + j) (by omega)
    have e1 : (encode (E :: es))[(Lib.uvarint (numOf E)).length + j]'(by omega) = (Lib.beBytes 4 E.crc).getD j 0 := by
      have hj4 : j < (Lib.beBytes 4 E.crc).length := by rw [Lib.beBytes_length]; exact hj
      simp only [hen]
      rw [List.getElem_append_right (by omega)]
      simp only [Nat.add_sub_cancel_left]
      rw [List.getElem_append_left hj4]
      simp [List.getD, hj4]
    rw [e1, ← Nat.add_assoc] at h5
    exact h5
  have hu32 := fun (w' : World) (n c : Nat) (hb : Below w.heap.size w w') (hn : 4 ≤ n) => u32_any g (o + (Lib.uvarint (numOf E)).length) n c E.crc hc w' hn (fun j hj => (hb.cell hgl).trans (hcb j hj))
  have hnum : numOf E = 2 * E.gap + 1 := by unfold numOf; rw [hz]; rfl
  have hnx : nxt ≤ 33554432 := by omega
  have H : Hid (Cur w C g o cap nxt (E :: es)) := h
  have hup := Lib.uvarint_pos (numOf E)
  clear hby hd hen hsm h hcb hco
  rw [hl] at c0 hrm huv0
  rw [hkk]
  generalize hk : (Lib.uvarint (numOf E)).length = k at c0 hrm huv0 hl hkk hu32 hup ⊢
  generalize hLL : (encode es).length = LL at c0 hrm huv0 hpos hl
  generalize hx : numOf E = x at huv0 hnum
  have HUV : ∀ o', Hid (Calls Yba.prog 17 #[.slice (some ⟨g, o, none⟩) (k + (4 + LL)) cap] (w.alloc o') fun e w' => e = .returned (.tuple #[.int .u64 x, .int .i64 k]) ∧ w.alloc o' = w') := fun o' => huv0 o'
  have HU32 : Hid (∀ (w' : World) (n c : Nat), Below w.heap.size w w' → 4 ≤ n → Calls Yba.prog 18 #[.agg #[], .slice (some ⟨g, o + k, none⟩) n c] w' fun e w'' => e = .returned (.int .u32 E.crc) ∧ Below w'.heap.size w' w'') := hu32
  clear huv0 hx hcz hk hu32
  have hkk : Hid ((code E).length = k + 4) := hkk
  have hLL : Hid ((encode es).length = LL) := hLL
  have hx1 : 1 ≤ x := by omega
  have hx2 : x ≤ 131072 := by omega
  have HX : Hid (x = 2 * E.gap + 1) := hnum
  clear hnum hl
  go_enter Yba.func13, Yba.ntmps13
  go_wp2_with fail
  refine Calls.mono (Hid.out (HUV _)) ?_
  rintro e w1 ⟨rfl, rfl⟩
  clear HUV
  have hgp : ((x : Int) - 1) / 2 = E.gap := by have := HX.out; omega
  have hand : bits .and .u64 ((x : Int) - 1) 1 = 0 := by
    have h1 := and_one (x - 1) (by omega)
    have e1 : ((x - 1 : Nat) : Int) = (x : Int) - 1 := by omega
    have e2 : (x - 1) % 2 = 0 := by have := HX.out; omega
    rw [e1, e2] at h1
    exact h1
  go_wp2_with fail
  go_quiet (fail)
  go_wp2_with fail
  obtain ⟨W2, hW2⟩ : ∃ W2, W2 = ((w.alloc (.cells #[.int .i64 0, .bool false, .int .u32 0] 41)).drewN nq).alloc (.cells #[.int .i64 ((nxt : Int) + E.gap), .bool false, .int .u32 0] 41) := ⟨_, rfl⟩
  rw [← hW2]
  obtain ⟨q, hq⟩ : ∃ q, q = w.heap.size := ⟨_, rfl⟩
  rw [← hq]
  have F := w2_facts hq hW2
  have d0 := (F.2.1 ⟨C, 0, none⟩ cl).trans c0
  have d2 := (F.2.1 ⟨C, 2, none⟩ cl).trans c2
  have df0 := (F.2.2.1 ⟨C, 0, none⟩ cl).trans (cf 0)
  have df2 := (F.2.2.1 ⟨C, 2, none⟩ cl).trans (cf 2)
  obtain ⟨_, _, _, s0, s1, s2, ⟨y0, z0⟩, ⟨y1, z1⟩, ⟨y2, z2⟩, zf0, zf1, zf2, hgr, sf, hsz⟩ := F
  have hCq : C < q := by omega
  have HQ : Hid (q = w.heap.size) := hq
  have hbW : Below w.heap.size w W2 := below_of_grown hgr (Nat.le_refl _) (fun k h => by cases h)
  have HS : Hid (W2.heap.size = q + 2) := hsz
  clear hW2 hq cl hsz
  go_region_held3 (fun _ => True) (exact trivial) ((go_at_call 18; refine Calls.mono (HU32.out _ _ _ ?_ ?_) ?_; (exact hbW.drew); (omega); rintro e w5 ⟨rfl, hb5⟩; have hb6 : Below W2.heap.size W2 w5 := ⟨hb5.os, hb5.tape, hb5.output, hb5.size, hb5.block⟩; clear hb5; obtain ⟨j0, j1, j2, j3, j4, j5⟩ := w5_facts (C := C) (q := q) hb6 (by rw [HS.out]; omega) (by rw [HS.out]; omega)))
  go_wp2_with fail
  have m0 : (w5.setCell ⟨q + 1, 2, none⟩ (.int .u32 E.crc)).cell? ⟨C, 0, none⟩ = some (.slice (some ⟨g, o, none⟩) (k + (4 + LL)) cap) := by go_simp
  have m2 : (w5.setCell ⟨q + 1, 2, none⟩ (.int .u32 E.crc)).cell? ⟨C, 2, none⟩ = some (.int .i64 ((nxt : Int) - 1)) := by go_simp
  have mf0 : (w5.setCell ⟨q + 1, 2, none⟩ (.int .u32 E.crc)).frozen? ⟨C, 0, none⟩ = false := by go_simp
  have mf2 : (w5.setCell ⟨q + 1, 2, none⟩ (.int .u32 E.crc)).frozen? ⟨C, 2, none⟩ = false := by go_simp
  have n0 : (w5.setCell ⟨q + 1, 2, none⟩ (.int .u32 E.crc)).cell? ⟨q + 1, 0, none⟩ = some (.int .i64 ((nxt : Int) + E.gap)) := by go_simp
  have n1 : (w5.setCell ⟨q + 1, 2, none⟩ (.int .u32 E.crc)).cell? ⟨q + 1, 1, none⟩ = some (.bool false) := by go_simp
  have n2 : (w5.setCell ⟨q + 1, 2, none⟩ (.int .u32 E.crc)).cell? ⟨q + 1, 2, none⟩ = some (.int .u32 E.crc) := by go_simp
  have x0 : (w5.setCell ⟨q + 1, 2, none⟩ (.int .u32 E.crc)).cell? ⟨q, 0, none⟩ = some y0 := by go_simp
  have x1 : (w5.setCell ⟨q + 1, 2, none⟩ (.int .u32 E.crc)).cell? ⟨q, 1, none⟩ = some y1 := by go_simp
  have x2 : (w5.setCell ⟨q + 1, 2, none⟩ (.int .u32 E.crc)).cell? ⟨q, 2, none⟩ = some y2 := by go_simp
  have xf0 : (w5.setCell ⟨q + 1, 2, none⟩ (.int .u32 E.crc)).frozen? ⟨q, 0, none⟩ = false := by go_simp
  have xf1 : (w5.setCell ⟨q + 1, 2, none⟩ (.int .u32 E.crc)).frozen? ⟨q, 1, none⟩ = false := by go_simp
  have xf2 : (w5.setCell ⟨q + 1, 2, none⟩ (.int .u32 E.crc)).frozen? ⟨q, 2, none⟩ = false := by go_simp
  have hgr5 : w.grownBy (w5.setCell ⟨q + 1, 2, none⟩ (.int .u32 E.crc)) none := by
    have hq := HQ.out
    have hs6 := hb6.size
    have hs7 := HS.out
    have hsc : (w5.setCell ⟨q + 1, 2, none⟩ (.int .u32 E.crc)).heap.size = w5.heap.size := by simp [World.setCell]
    refine ⟨hb6.os.trans hgr.os, hb6.tape.trans hgr.tape, hb6.output.trans hgr.output, by omega, fun j hj _ => ?_⟩
    rw [Below.heap_setCell _ _ _ _ (show j ≠ q + 1 by omega), hb6.block j (by omega), hgr.block j hj (by simp)]
  generalize w5.setCell ⟨q + 1, 2, none⟩ (.int .u32 E.crc) = W3 at m0 m2 mf0 mf2 n0 n1 n2 x0 x1 x2 xf0 xf1 xf2 hgr5 ⊢
  clear j0 j1 j2 j3 j4 j5 hb6 hbW hgr d0 d2 df0 df2 s0 s1 s2 z0 z1 z2 zf0 zf1 zf2 sf HS HU32 c0 c1 c2 c3 cf
  go_region
  go_wp2_with fail
  have HF := fin_cur (x0 := .int .i64 ((nxt : Int) + E.gap)) (x1 := .bool false) (x2 := .int .u32 E.crc) H.out HQ.out hgr5 1
  rw [hkk.out, hLL.out] at HF
  exact bodyPost_ret (v := .tuple #[.agg #[.int .i64 ((nxt : Int) + E.gap), .bool false, .int .u32 E.crc], .bool true]) (by simp [results, Yba.results13, go_sem, x0, x1, x2]) rfl ⟨rfl, HF⟩
end Go.Proofs.Ybulkbmoi
