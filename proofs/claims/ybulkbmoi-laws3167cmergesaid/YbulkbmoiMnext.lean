/-
  The merger's next, walked.
-/
import Derived.Test.YbulkbmoiMerge2
namespace Go.Proofs.Ybulkbmoi
open Go.RowKit Go

/-- All that the merger owns lies ahead of block B. -/
structure MLow (B M Hh Hl : Nat) (CS : List Nat) (cv : Value) : Prop where
  m : M < B
  hh : Hh < B
  hl : Hl < B
  cs : ∀ i, i < CS.length → CS.getD i 0 < B
  cv : ∀ g, cv.ownBlock = some g → g < B

theorem ms_mlow {T n M Hh Hl : Nat} {w : World} {CS : List Nat} {cv : Value} {ss : List St} (h : MS T w n M Hh Hl CS cv ss) : MLow w.heap.size M Hh Hl CS cv :=
  ⟨(Array.getElem?_eq_some_iff.1 h.m).1, by obtain ⟨c, h, _⟩ := h.heads; exact (Array.getElem?_eq_some_iff.1 h).1, by obtain ⟨c, h, _⟩ := h.live; exact (Array.getElem?_eq_some_iff.1 h).1, fun i hi => (h.apart.cs i hi).2.1, fun g hg => (h.own.lt g hg).2⟩

theorem ms_low {T B n M Hh Hl : Nat} {w w' : World} {CS : List Nat} {cv : Value} {ss : List St} (h : MS T w n M Hh Hl CS cv ss) (hL : MLow B M Hh Hl CS cv) (hT : T ≤ B) (hss : ss.length ≤ CS.length) (hk : ∀ j, j < B → w'.heap[j]? = w.heap[j]?) (hB : B ≤ w'.heap.size) : MS T w' n M Hh Hl CS cv ss := by
  refine ⟨by rw [hk M hL.m]; exact h.m, ?_, h.heads.keep (hk _ hL.hh), h.live.keep (hk _ hL.hl), fun i hi => ?_, ?_⟩
  · have ho := h.own
    refine ⟨ho.1, ?_⟩
    rcases ho.2 with h1 | ⟨g, cap, cur, h1, h2, h3, h4⟩
    · exact .inl h1
    · exact .inr ⟨g, cap, cur, h1, h2, by rw [hk g (hL.cv g (by rw [h1]; rfl))]; exact h3, h4⟩
  · obtain ⟨g, o, cap, hc, hg⟩ := h.cur i hi
    exact ⟨g, o, cap, hc.keep (hk _ (hL.cs i (by omega))) (hk _ (by omega)), hg⟩
  · have hA := h.apart
    exact ⟨hA.h1, hA.h2, hA.h3, hA.h4, hA.h5, hA.h6, fun i hi => by have h5 := hA.cs i hi; have := hL.cs i hi; exact ⟨h5.1, by omega, h5.2.2⟩, hA.nodup, hA.own⟩

/-- The merger, where more has been made behind it. -/
theorem ms_below {T n M Hh Hl : Nat} {w w' : World} {CS : List Nat} {cv : Value} {ss : List St} (h : MS T w n M Hh Hl CS cv ss) (hT : T ≤ w.heap.size) (hss : ss.length ≤ CS.length) (hb : Below w.heap.size w w') : MS T w' n M Hh Hl CS cv ss :=
  ms_low h (ms_mlow h) hT hss hb.block hb.size

def liveAt (ss : List St) (k : Nat) : Bool := (ss.getD k dSt).live
def idxAt (ss : List St) (k : Nat) : Nat := (ss.getD k dSt).head.idx

/-- The first loop: which of the first k points has the lowest live head. -/
def atN (ss : List St) : Nat → Option Nat
  | 0 => none
  | k + 1 => match atN ss k with
    | none => if liveAt ss k = true then some k else none
    | some a => if liveAt ss k = true ∧ idxAt ss k < idxAt ss a then some k else some a

def atV (a : Option Nat) : Value := match a with
  | none => .int .i64 (-1)
  | some a => .int .i64 a

theorem atN_lt (ss : List St) (k a : Nat) (h : atN ss k = some a) : a < k := by
  induction k with
  | zero => cases h
  | succ k ih =>
    simp only [atN] at h
    split at h
    · split at h
      · cases h; omega
      · cases h
    · split at h
      · cases h; omega
      · cases h; have := ih (by assumption); omega

def stepSt (ix : Nat) (st : St) : St := if st.live = true ∧ st.head.idx = ix then advance st.nxt st.rest else st
def stepN (ix k : Nat) (ss : List St) : List St := (ss.take k).map (stepSt ix) ++ ss.drop k

theorem head_cells {T n M Hh Hl i : Nat} {w : World} {CS : List Nat} {cv : Value} {ss : List St} (h : MS T w n M Hh Hl CS cv ss) (hi : i < ss.length) :
    w.cell? ⟨Hh, i * 3, none⟩ = some (.int .i64 (ss.getD i dSt).head.idx) ∧ w.cell? ⟨Hh, i * 3 + 1, none⟩ = some (.bool (ss.getD i dSt).head.zeros) ∧ w.cell? ⟨Hh, i * 3 + 2, none⟩ = some (.int .u32 (ss.getD i dSt).head.crc) ∧ w.cell? ⟨Hl, i, none⟩ = some (.bool (ss.getD i dSt).live) := by
  obtain ⟨hcur, hh1, hh2, hh3⟩ := h.heads
  obtain ⟨lcur, hl1, hl2, hl3⟩ := h.live
  obtain ⟨a, b, c⟩ := hh3 i hi
  have d := hl3 i hi
  exact ⟨by rw [cell_of_row w Hh _ hcur 41 (0, 0) hh1]; exact a, by rw [cell_of_row w Hh _ hcur 41 (0, 0) hh1]; exact b, by rw [cell_of_row w Hh _ hcur 41 (0, 0) hh1]; exact c, by rw [cell_of_row w Hl _ lcur 4 (0, 0) hl1]; exact d⟩

/-- The merger, all told, at wr: it stands, w's low blocks are as they were, and the result's cell is zero. -/
structure MInv (T n M Hh Hl : Nat) (CS : List Nat) (cv : Value) (ss : List St) (w wr : World) : Prop where
  ms : MS T wr n M Hh Hl CS cv ss
  bel : Below T w wr
  res : wr.heap[w.heap.size]? = some (.cells #[.int .i64 0, .bool false, .int .u32 0] 41 (0, 0))

theorem MInv.alloc {T n M Hh Hl : Nat} {CS : List Nat} {cv : Value} {ss : List St} {w wr wx : World} (h : MInv T n M Hh Hl CS cv ss w wr) (hT : T ≤ w.heap.size) (hss : ss.length ≤ CS.length) (hb : Below wr.heap.size wr wx) : MInv T n M Hh Hl CS cv ss w wx := by
  have hs := h.bel.size
  exact ⟨ms_below h.ms (by omega) hss hb, h.bel.trans (hb.mono (by omega)), by rw [hb.block _ (Array.getElem?_eq_some_iff.1 h.res).1]; exact h.res⟩

theorem minv_start {T n M Hh Hl : Nat} {CS : List Nat} {cv : Value} {ss : List St} {w : World} (h : MS T w n M Hh Hl CS cv ss) (hT : T ≤ w.heap.size) (hss : ss.length ≤ CS.length) : MInv T n M Hh Hl CS cv ss w (w.alloc (.cells #[.int .i64 0, .bool false, .int .u32 0] 41)) := by
  have hb : Below w.heap.size w (w.alloc (.cells #[.int .i64 0, .bool false, .int .u32 0] 41)) := (Below.refl w.heap.size w).alloc (Nat.le_refl _) _
  exact ⟨ms_below h hT hss hb, hb.mono hT, heap_alloc_new _ _⟩

theorem below_alloc (w : World) (o : Obj) (nq : Nat) : Below w.heap.size w ((w.alloc o).drewN nq) := by
  have h := (Below.refl w.heap.size w).alloc (Nat.le_refl _) o
  exact ⟨h.os, h.tape, h.output, h.size, h.block⟩

/-- The result's cells written: the merger is as it was. -/
theorem minv_res {T n M Hh Hl : Nat} {CS : List Nat} {cv : Value} {ss : List St} {w wr : World} (h : MInv T n M Hh Hl CS cv ss w wr) (hL : MLow w.heap.size M Hh Hl CS cv) (hT : T ≤ w.heap.size) (hss : ss.length ≤ CS.length) (v0 v1 v2 : Value) :
    MS T (((wr.setCell ⟨w.heap.size, 0, none⟩ v0).setCell ⟨w.heap.size, 1, none⟩ v1).setCell ⟨w.heap.size, 2, none⟩ v2) n M Hh Hl CS cv ss ∧ Below T w (((wr.setCell ⟨w.heap.size, 0, none⟩ v0).setCell ⟨w.heap.size, 1, none⟩ v1).setCell ⟨w.heap.size, 2, none⟩ v2) := by
  have hs := h.bel.size
  refine ⟨ms_low h.ms hL hT hss (fun j hj => ?_) (by simp [World.setCell]; exact hs), ((h.bel.setCell hT _).setCell hT _).setCell hT _⟩
  rw [Below.heap_setCell _ _ _ _ (by show j ≠ w.heap.size; omega), Below.heap_setCell _ _ _ _ (by show j ≠ w.heap.size; omega), Below.heap_setCell _ _ _ _ (by show j ≠ w.heap.size; omega)]

def MPost (T n M Hh Hl : Nat) (CS : List Nat) (cv : Value) (ss : List St) (w : World) (e : Ending) (w' : World) : Prop :=
  match atN ss n with
  | none => e = .returned (.tuple #[cluV ⟨0, false, 0⟩, .bool false]) ∧ MS T w' n M Hh Hl CS cv ss ∧ Below T w w'
  | some a => e = .returned (.tuple #[cluV (ss.getD a dSt).head, .bool true]) ∧ MS T w' n M Hh Hl CS cv (ss.map (stepSt (idxAt ss a))) ∧ Below T w w'

theorem stepN_length (ix k : Nat) (ss : List St) : (stepN ix k ss).length = ss.length := by
  unfold stepN
  simp
  omega

theorem stepN_at (ix j : Nat) (ss : List St) (h : j < ss.length) : (stepN ix j ss).getD j dSt = ss.getD j dSt := by
  unfold stepN
  simp only [List.getD]
  rw [List.getElem?_append_right (by simp; omega)]
  simp
  congr 2
  omega

theorem stepN_succ (ix j : Nat) (ss : List St) (h : j < ss.length) : stepN ix (j + 1) ss = (stepN ix j ss).set j (stepSt ix (ss.getD j dSt)) := by
  unfold stepN
  have e : ss.getD j dSt = ss[j] := by simp [List.getD, h]
  have e2 : ss.drop j = ss[j] :: ss.drop (j + 1) := List.drop_eq_getElem_cons h
  have e3 : j - ((ss.take j).map (stepSt ix)).length = 0 := by simp; omega
  rw [List.take_succ_eq_append_getElem h, List.map_append, List.set_append, if_neg (by simp; omega), e, e3, e2, List.set_cons_zero]
  simp

theorem stepN_zero (ix : Nat) (ss : List St) : stepN ix 0 ss = ss := by simp [stepN]
theorem stepN_all (ix n : Nat) (ss : List St) (h : ss.length = n) : stepN ix n ss = ss.map (stepSt ix) := by
  subst h; simp [stepN]

theorem set_same (l : List St) (j : Nat) (h : j < l.length) : l.set j (l.getD j dSt) = l := by
  have e : l.getD j dSt = l[j] := by simp [List.getD, h]
  rw [e]
  exact List.set_getElem_self h

/-- The rows behind the merger are as they were. -/
theorem far_row {X w1 : World} {C Hh Hl i b : Nat} {v0 v1 v2 v3 : Value} (hg : X.grownBy w1 (some C)) (hb : b < X.heap.size) (h1 : b ≠ C) (h2 : b ≠ Hh) (h3 : b ≠ Hl) :
    ((((w1.setCell ⟨Hh, i * 3, none⟩ v0).setCell ⟨Hh, i * 3 + 1, none⟩ v1).setCell ⟨Hh, i * 3 + 2, none⟩ v2).setCell ⟨Hl, i, none⟩ v3).heap[b]? = X.heap[b]? := by
  rw [Below.heap_setCell _ _ _ _ h3, Below.heap_setCell _ _ _ _ h2, Below.heap_setCell _ _ _ _ h2, Below.heap_setCell _ _ _ _ h2, hg.block b hb (by simp; exact h1)]

set_option maxRecDepth 100000 in
set_option maxHeartbeats 1000000 in
theorem mnext_any (T n M Hh Hl : Nat) (CS : List Nat) (cv : Value) (ss : List St) (w : World) (hms : MS T w n M Hh Hl CS cv ss) (hT : T ≤ w.heap.size) (hn : ss.length = n) (hCS : CS.length = n) (hn64 : n ≤ 64) :
    Calls Yba.prog 9 #[.pointer (some ⟨M, 0, none⟩)] w (MPost T n M Hh Hl CS cv ss w) := by
  have hssc : ss.length ≤ CS.length := by omega
  have HLOW : Hid (MLow w.heap.size M Hh Hl CS cv) := ms_mlow hms
  have hst := minv_start hms hT hssc
  have y1 := ms_cell hms 1 rfl
  have hM : M < w.heap.size := (Array.getElem?_eq_some_iff.1 hms.m).1
  have HST : Hid (MInv T n M Hh Hl CS cv ss w (w.alloc (.cells #[.int .i64 0, .bool false, .int .u32 0] 41))) := hst
  clear hms hst
  go_enter Yba.func9, Yba.ntmps9
  go_wp2_with fail
  go_loopw [4, 15] (fun a i wr => ∃ k : Nat, k ≤ n ∧ i = .int .i64 k ∧ a = atV (atN ss k) ∧ MInv T n M Hh Hl CS cv ss w wr) (fun _ i _ => n - (intOf i).toNat)
  case atStart => exact ⟨0, Nat.zero_le _, rfl, rfl, HST.out⟩
  case round =>
    obtain ⟨k, hk, rfl, rfl, hinv⟩ := hrel
    clear HST y1 hM
    have y1 := ms_cell hinv.ms 1 rfl
    have y2 := ms_cell hinv.ms 2 rfl
    have hM : M < wr.heap.size := (Array.getElem?_eq_some_iff.1 hinv.ms.m).1
    have hHh : Hh < wr.heap.size := by obtain ⟨c, h, _⟩ := hinv.ms.heads; exact (Array.getElem?_eq_some_iff.1 h).1
    have hHl : Hl < wr.heap.size := by obtain ⟨c, h, _⟩ := hinv.ms.live; exact (Array.getElem?_eq_some_iff.1 h).1
    by_cases hlt : k < n
    · obtain ⟨h0, h1, h2, h3⟩ := head_cells hinv.ms (i := k) (by omega)
      have HINV : Hid (MInv T n M Hh Hl CS cv ss w wr) := hinv
      have HAT : Hid (atN ss (k + 1) = match atN ss k with
        | none => if liveAt ss k = true then some k else none
        | some a => if liveAt ss k = true ∧ idxAt ss k < idxAt ss a then some k else some a) := rfl
      have hlv : liveAt ss k = (ss.getD k dSt).live := rfl
      have hix : idxAt ss k = (ss.getD k dSt).head.idx := rfl
      generalize ss.getD k dSt = st at *
      obtain ⟨slive, shead, snxt, srest⟩ := st
      obtain ⟨six, szs, scrc⟩ := shead
      dsimp only at h0 h1 h2 h3 hlv hix
      clear hinv
      have hdone : ∀ nq, MInv T n M Hh Hl CS cv ss w ((wr.alloc (Obj.cells #[Value.int IntKind.i64 (six : Int), Value.bool szs, Value.int IntKind.u32 (scrc : Int)] 41)).drewN nq) := fun nq => by
        exact HINV.out.alloc hT hssc (below_alloc _ _ _)
      have HD : Hid (∀ nq, MInv T n M Hh Hl CS cv ss w ((wr.alloc (Obj.cells #[Value.int IntKind.i64 (six : Int), Value.bool szs, Value.int IntKind.u32 (scrc : Int)] 41)).drewN nq)) := hdone
      clear hdone
      cases slive with
      | false =>
        have HE : Hid (atN ss (k + 1) = atN ss k) := by
          show _ = _
          rw [HAT.out, hlv]
          cases atN ss k <;> simp
        clear HAT HINV
        go_wp2_with fail
        go_quiet (fail)
        go_wp2_with fail
        go_roundw
        case rel => exact ⟨k + 1, by omega, by go_num, by rw [HE.out], HD.out _⟩
        case measure => simp [intOf]; omega
      | true =>
        cases hat : atN ss k with
        | none =>
          have HE : Hid (atN ss (k + 1) = some k) := by
            show _ = _
            rw [HAT.out, hlv, hat]
            simp
          clear HAT HINV
          unfold atV
          go_wp2_with fail
          go_quiet (fail)
          go_wp2_with fail
          go_roundw
          case rel => exact ⟨k + 1, by omega, by go_num, by rw [HE.out], HD.out _⟩
          case measure => simp [intOf]; omega
        | some a =>
          have hak := atN_lt ss k a hat
          obtain ⟨b0, _, _, _⟩ := head_cells HINV.out.ms (i := a) (by omega)
          have hixa : (ss.getD a dSt).head.idx = idxAt ss a := rfl
          rw [hixa] at b0
          have i0 : (0 : Int) ≤ (a : Int) := by omega
          have i1 : (a : Int) < (n : Int) := by omega
          have i2 : ¬ ((a : Int) < 0) := by omega
          unfold atV
          by_cases hcmp : six < idxAt ss a
          · have HE : Hid (atN ss (k + 1) = some k) := by
              show _ = _
              rw [HAT.out, hlv, hat, hix]
              simp [hcmp]
            have hcmp' : (six : Int) < (idxAt ss a : Int) := by omega
            clear HAT HINV hixa hix hlv
            generalize idxAt ss a = ia at *
            go_wp2_with fail
            go_quiet (fail)
            go_wp2_with fail
            go_roundw
            case rel => exact ⟨k + 1, by omega, by go_num, by rw [HE.out], HD.out _⟩
            case measure => simp [intOf]; omega
          · have HE : Hid (atN ss (k + 1) = some a) := by
              show _ = _
              rw [HAT.out, hlv, hat, hix]
              simp [hcmp]
            have hcmp' : ¬ ((six : Int) < (idxAt ss a : Int)) := by omega
            clear HAT HINV hixa hix hlv
            generalize idxAt ss a = ia at *
            go_wp2_with fail
            go_quiet (fail)
            go_wp2_with fail
            go_roundw
            case rel => exact ⟨k + 1, by omega, by go_num, by rw [HE.out], HD.out _⟩
            case measure => simp [intOf]; omega
    · obtain rfl : n = k := by omega
      have HINV : Hid (MInv T n M Hh Hl CS cv ss w wr) := hinv
      have r0 : wr.cell? ⟨w.heap.size, 0, none⟩ = some (.int .i64 0) := by rw [cell_of_row wr _ _ _ 41 (0, 0) hinv.res]; rfl
      have r1 : wr.cell? ⟨w.heap.size, 1, none⟩ = some (.bool false) := by rw [cell_of_row wr _ _ _ 41 (0, 0) hinv.res]; rfl
      have r2 : wr.cell? ⟨w.heap.size, 2, none⟩ = some (.int .u32 0) := by rw [cell_of_row wr _ _ _ 41 (0, 0) hinv.res]; rfl
      have rf : ∀ j, wr.frozen? ⟨w.heap.size, j, none⟩ = false := fun j => frozen_of_row wr _ j _ 41 hinv.res
      cases hat : atN ss n with
      | none =>
        unfold atV
        clear hinv
        go_wp2_with fail
        obtain ⟨q1, q2⟩ := minv_res HINV.out HLOW.out hT hssc (.int .i64 0) (.bool false) (.int .u32 0)
        refine bodyPost_ret (v := .tuple #[cluV ⟨0, false, 0⟩, .bool false]) (by simp [results, Yba.results9, go_sem, r0, r1, r2, cluV]) rfl ?_
        unfold MPost
        rw [hat]
        exact ⟨rfl, q1, q2⟩
      | some a =>
        have hak := atN_lt ss n a hat
        obtain ⟨b0, b1, b2, b3⟩ := head_cells hinv.ms (i := a) (by omega)
        have i0 : (0 : Int) ≤ (a : Int) := by omega
        have i1 : (a : Int) < (n : Int) := by omega
        have i2 : ¬ ((a : Int) < 0) := by omega
        have HIX : Hid (idxAt ss a = (ss.getD a dSt).head.idx) := rfl
        generalize hgs : ss.getD a dSt = st at *
        obtain ⟨slive, ⟨six, szs, scrc⟩, snxt, srest⟩ := st
        dsimp only at b0 b1 b2 b3
        have HHD : Hid (ss.getD a dSt = ⟨slive, ⟨six, szs, scrc⟩, snxt, srest⟩) := hgs
        clear hgs
        unfold atV
        clear hinv
        have HSX : Hid (MInv T n M Hh Hl CS cv ss w (wr.alloc (Obj.cells #[Value.int IntKind.i64 (six : Int), Value.bool szs, Value.int IntKind.u32 (scrc : Int)] 41)) ∧ (wr.alloc (Obj.cells #[Value.int IntKind.i64 (six : Int), Value.bool szs, Value.int IntKind.u32 (scrc : Int)] 41)).heap[wr.heap.size]? = some (Obj.cells #[Value.int IntKind.i64 (six : Int), Value.bool szs, Value.int IntKind.u32 (scrc : Int)] 41 (0, 0))) :=
          ⟨HINV.out.alloc hT hssc (below_alloc _ _ 0), heap_alloc_new _ _⟩
        have hR7 : w.heap.size < wr.heap.size := (Array.getElem?_eq_some_iff.1 HINV.out.res).1
        go_wp2_with fail
        clear b0 b1 b2 b3 r0 r1 r2 rf y1 y2 HINV
        generalize wr.alloc (Obj.cells #[Value.int IntKind.i64 (six : Int), Value.bool szs, Value.int IntKind.u32 (scrc : Int)] 41) = W7 at *
        generalize wr.heap.size = R7 at *
        go_loopw [61] (fun i wx => ∃ j : Nat, j ≤ n ∧ i = .int .i64 j ∧ MInv T n M Hh Hl CS cv (stepN six j ss) w wx ∧ wx.heap[R7]? = some (Obj.cells #[Value.int IntKind.i64 (six : Int), Value.bool szs, Value.int IntKind.u32 (scrc : Int)] 41 (0, 0))) (fun i _ => n - (intOf i).toNat)
        case atStart => exact ⟨0, Nat.zero_le _, rfl, by rw [stepN_zero]; exact HSX.out.1, HSX.out.2⟩
        case round =>
          obtain ⟨j, hj, rfl, hinv, hrow⟩ := hrel
          clear HSX
          have hsl : (stepN six j ss).length = n := by rw [stepN_length]; exact hn
          have hM : M < wr.heap.size := (Array.getElem?_eq_some_iff.1 hinv.ms.m).1
          have hHh : Hh < wr.heap.size := by obtain ⟨c, h, _⟩ := hinv.ms.heads; exact (Array.getElem?_eq_some_iff.1 h).1
          have hHl : Hl < wr.heap.size := by obtain ⟨c, h, _⟩ := hinv.ms.live; exact (Array.getElem?_eq_some_iff.1 h).1
          have hR7w : R7 < wr.heap.size := (Array.getElem?_eq_some_iff.1 hrow).1
          have s0 : wr.cell? ⟨R7, 0, none⟩ = some (.int .i64 six) := by rw [cell_of_row wr _ _ _ 41 (0, 0) hrow]; rfl
          have s1 : wr.cell? ⟨R7, 1, none⟩ = some (.bool szs) := by rw [cell_of_row wr _ _ _ 41 (0, 0) hrow]; rfl
          have s2 : wr.cell? ⟨R7, 2, none⟩ = some (.int .u32 scrc) := by rw [cell_of_row wr _ _ _ 41 (0, 0) hrow]; rfl
          have y1 := ms_cell hinv.ms 1 rfl
          have y2 := ms_cell hinv.ms 2 rfl
          have HINV : Hid (MInv T n M Hh Hl CS cv (stepN six j ss) w wr) := hinv
          have HROW : Hid (wr.heap[R7]? = some (Obj.cells #[Value.int IntKind.i64 (six : Int), Value.bool szs, Value.int IntKind.u32 (scrc : Int)] 41 (0, 0))) := hrow
          clear hinv hrow
          by_cases hlt : j < n
          · have hst := stepN_at six j ss (by omega)
            obtain ⟨h0, h1, h2, h3⟩ := head_cells HINV.out.ms (i := j) (by omega)
            rw [hst] at h0 h1 h2 h3
            have HSU : Hid (stepN six (j + 1) ss = (stepN six j ss).set j (stepSt six (ss.getD j dSt))) := stepN_succ six j ss (by omega)
            have HSA : Hid ((stepN six j ss).getD j dSt = ss.getD j dSt) := hst
            clear hst
            generalize ss.getD j dSt = st at *
            obtain ⟨tlive, ⟨tix, tzs, tcrc⟩, tnxt, trest⟩ := st
            dsimp only at h0 h1 h2 h3
            by_cases htake : tlive = true ∧ tix = six
            · obtain ⟨rfl, rfl⟩ := htake
              go_wp2_with fail
              obtain ⟨g, o, cap, hcur, hgT⟩ := HINV.out.ms.cur j (by omega)
              rw [HSA.out] at hcur
              dsimp only at hcur
              obtain ⟨g5, cap5, hcv5, _, _⟩ := HINV.out.ms.own.form (by omega)
              rw [hCS] at hcv5
              subst hcv5
              have hXI : MInv T n M Hh Hl CS (.slice (some ⟨g5, 0, none⟩) n cap5) (stepN tix j ss) w (wr.alloc (Obj.cells #[Value.int IntKind.i64 (tix : Int), Value.bool tzs, Value.int IntKind.u32 (tcrc : Int)] 41)) := HINV.out.alloc hT (by omega) (below_alloc _ _ 0)
              have hXr : (wr.alloc (Obj.cells #[Value.int IntKind.i64 (tix : Int), Value.bool tzs, Value.int IntKind.u32 (tcrc : Int)] 41)).heap[R7]? = some (Obj.cells #[Value.int IntKind.i64 (tix : Int), Value.bool szs, Value.int IntKind.u32 (scrc : Int)] 41 (0, 0)) := ((below_alloc wr _ 0).block _ hR7w).trans HROW.out
              have hXc : Cur (wr.alloc (Obj.cells #[Value.int IntKind.i64 (tix : Int), Value.bool tzs, Value.int IntKind.u32 (tcrc : Int)] 41)) (CS.getD j 0) g o cap tnxt trest := hcur.keep ((below_alloc wr _ 0).block _ (Array.getElem?_eq_some_iff.1 hcur.row).1) ((below_alloc wr _ 0).block _ (by have := HINV.out.bel.size; omega))
              clear h0 h1 h2 h3 y1 y2 s0 s1 s2 HINV HROW hcur hM hHh hHl hR7w
              generalize wr.alloc (Obj.cells #[Value.int IntKind.i64 (tix : Int), Value.bool tzs, Value.int IntKind.u32 (tcrc : Int)] 41) = X at *
              have y0 := ms_cell hXI.ms 0 rfl
              have y1 := ms_cell hXI.ms 1 rfl
              have y2 := ms_cell hXI.ms 2 rfl
              have y3 : X.cell? ⟨g5, j, none⟩ = some (.pointer (some ⟨CS.getD j 0, 0, none⟩)) := by
                have ho := hXI.ms.own
                rw [hCS] at ho
                rw [ho.cellAt j (by omega)]
                have : j < CS.length := by omega
                simp [List.getD, this, ptr]
              obtain ⟨⟨x0, z0⟩, ⟨x1, z1⟩, ⟨x2, z2⟩, ⟨x3, z3⟩, zf, zg⟩ := row_cells hXI.ms hlt
              have HM6 : Hid (∀ (w1 : World), X.grownBy w1 (some (CS.getD j 0)) → _) := fun w1 hg => m6 (w1 := w1) hXI.ms (i := j) (by omega) hg
              have HCB : Hid (CS.getD j 0 < w.heap.size) := HLOW.out.cs j (by omega)
              have HXI : Hid (MInv T n M Hh Hl CS (.slice (some ⟨g5, 0, none⟩) n cap5) (stepN tix j ss) w X) := hXI
              have HCC : Hid (∃ C, CS.getD j 0 = C) := ⟨_, rfl⟩
              obtain ⟨C, hC⟩ := HCC.out
              rw [hC] at y3 hXc HM6
              have HC : Hid (CS.getD j 0 = C) := hC
              clear hC HCC
              have d1 := hXI.ms.apart.h4
              have d2 := hXI.ms.apart.h5
              have d3 := hXI.ms.apart.h6
              have d1' := d1.symm
              have d2' := d2.symm
              have d3' := d3.symm
              have dg := hXI.ms.apart.own g5 rfl
              have d4 := dg.1
              have d5 := dg.2.1
              have d6 := dg.2.2.1
              have d4' := d4.symm
              have d5' := d5.symm
              have d6' := d6.symm
              have i0 : (0 : Int) ≤ (j : Int) := by omega
              have i1 : (j : Int) < (n : Int) := by omega
              clear dg hXI
              go_region_held3 (fun w' => w'.cell? ⟨M, 0, none⟩ = some (.slice (some ⟨g5, 0, none⟩) n cap5) ∧ w'.cell? ⟨M, 1, none⟩ = some (.slice (some ⟨Hh, 0, none⟩) n n) ∧ w'.cell? ⟨M, 2, none⟩ = some (.slice (some ⟨Hl, 0, none⟩) n n) ∧ w'.cell? ⟨g5, j, none⟩ = some (.pointer (some ⟨C, 0, none⟩))) (go_keep) ((go_at_call 13; refine (next_any C g o cap tnxt trest _ ?_).mono ?_; (exact hXc.keep rfl rfl); rintro e w1 ⟨rfl, hg1, o1, cap1, hc1⟩; obtain ⟨r1, r2, r3, r4, r5, r6⟩ := HM6.out w1 ⟨hg1.os, hg1.tape, hg1.output, hg1.size, hg1.block⟩; unfold cluV))
              go_wp2_with fail
              have hadv : stepSt tix ⟨true, ⟨tix, tzs, tcrc⟩, tnxt, trest⟩ = advance tnxt trest := by simp [stepSt]
              rw [hadv] at HSU
              have hgX : X.grownBy w1 (some C) := ⟨hg1.os, hg1.tape, hg1.output, hg1.size, hg1.block⟩
              have hfin := ms_set (i := j) (st := advance tnxt trest) (ss' := stepN tix (j + 1) ss) (nn := 0) HXI.out.ms (by omega) hlt (by rw [HC.out]; exact hgX) (by rw [HC.out]; exact hc1) hgT (by rw [stepN_length]; omega) (by rw [HSU.out]; simp [List.getD, hsl, hlt]) (fun i hi hne => by
                rw [stepN_length] at hi
                refine ⟨by omega, ?_⟩
                rw [HSU.out]
                simp only [List.getD]
                rw [List.getElem?_set_ne (by omega)])
              have hCw : C < w.heap.size := by rw [← HC.out]; exact HCB.out
              have hL := HLOW.out
              have l2 := hL.hh
              have l3 := hL.hl
              go_roundw
              case rel => exact ⟨j + 1, by omega, by go_num, ⟨hfin.1, HXI.out.bel.trans hfin.2, (far_row hgX (Array.getElem?_eq_some_iff.1 HXI.out.res).1 (by omega) (by omega) (by omega)).trans HXI.out.res⟩, (far_row hgX (Array.getElem?_eq_some_iff.1 hXr).1 (by omega) (by omega) (by omega)).trans hXr⟩
              case measure => simp [intOf]; omega
            · have HSAME : Hid (stepN six (j + 1) ss = stepN six j ss) := by
                show _ = _
                rw [HSU.out]
                unfold stepSt
                rw [if_neg htake, ← HSA.out]
                exact set_same _ _ (by omega)
              clear HSU HSA
              have HDN : Hid (∀ nq, MInv T n M Hh Hl CS cv (stepN six (j + 1) ss) w ((wr.alloc (Obj.cells #[Value.int IntKind.i64 (tix : Int), Value.bool tzs, Value.int IntKind.u32 (tcrc : Int)] 41)).drewN nq) ∧ ((wr.alloc (Obj.cells #[Value.int IntKind.i64 (tix : Int), Value.bool tzs, Value.int IntKind.u32 (tcrc : Int)] 41)).drewN nq).heap[R7]? = some (Obj.cells #[Value.int IntKind.i64 (six : Int), Value.bool szs, Value.int IntKind.u32 (scrc : Int)] 41 (0, 0))) := fun nq => by
                rw [HSAME.out]
                exact ⟨HINV.out.alloc hT (by omega) (below_alloc _ _ _), by rw [(below_alloc wr _ nq).block _ hR7w]; exact HROW.out⟩
              clear HINV HROW HSAME
              cases tlive with
              | false =>
                go_wp2_with fail
                go_roundw
                case rel => exact ⟨j + 1, by omega, by go_num, (HDN.out 0).1, (HDN.out 0).2⟩
                case measure => simp [intOf]; omega
              | true =>
                have hne : ¬ ((tix : Int) = (six : Int)) := by
                  intro e
                  exact htake ⟨rfl, by omega⟩
                go_wp2_with fail
                go_roundw
                case rel => exact ⟨j + 1, by omega, by go_num, (HDN.out 0).1, (HDN.out 0).2⟩
                case measure => simp [intOf]; omega
          · obtain rfl : n = j := by omega
            have rr0 : wr.cell? ⟨w.heap.size, 0, none⟩ = some (.int .i64 0) := by rw [cell_of_row wr _ _ _ 41 (0, 0) HINV.out.res]; rfl
            have rr1 : wr.cell? ⟨w.heap.size, 1, none⟩ = some (.bool false) := by rw [cell_of_row wr _ _ _ 41 (0, 0) HINV.out.res]; rfl
            have rr2 : wr.cell? ⟨w.heap.size, 2, none⟩ = some (.int .u32 0) := by rw [cell_of_row wr _ _ _ 41 (0, 0) HINV.out.res]; rfl
            have rrf : ∀ j, wr.frozen? ⟨w.heap.size, j, none⟩ = false := fun j => frozen_of_row wr _ j _ 41 HINV.out.res
            go_wp2_with fail
            obtain ⟨q1, q2⟩ := minv_res HINV.out HLOW.out hT (by omega) (.int .i64 six) (.bool szs) (.int .u32 scrc)
            refine bodyPost_ret (v := .tuple #[cluV ⟨six, szs, scrc⟩, .bool true]) (by simp [results, Yba.results9, go_sem, rr0, rr1, rr2, cluV]) rfl ?_
            unfold MPost
            rw [hat]
            dsimp only
            rw [HIX.out, HHD.out, ← stepN_all six n ss hn]
            exact ⟨rfl, q1, q2⟩
end Go.Proofs.Ybulkbmoi
