/-
  zzs3167cbuild: what it lays.
-/
import Derived.Test.YbulkbmoiApp
import Derived.OpenShut
import Derived.Deep.Light
namespace Go.Proofs.Ybulkbmoi
open Go.RowKit Go

/-- A slice of entries that came in. -/
def EntRow (w : World) (v : Value) (es : List Ent) : Prop :=
  ∃ ao cap, v = .slice ao es.length cap ∧ (∀ e ∈ es, e.ok) ∧ (0 < es.length → ∃ b off, ao = some ⟨b, off, none⟩ ∧ ∀ j (h : j < es.length), w.cell? ⟨b, off + j * 3, none⟩ = some (.int .u16 es[j].gap) ∧ w.cell? ⟨b, off + j * 3 + 1, none⟩ = some (.bool es[j].zeros) ∧ w.cell? ⟨b, off + j * 3 + 2, none⟩ = some (.int .u32 es[j].crc))

/-- The points that came in. -/
def PtsRow (w : World) (v : Value) (ps : List (List Ent)) : Prop :=
  ∃ ao cap, v = .slice ao ps.length cap ∧ (0 < ps.length → ∃ b off, ao = some ⟨b, off, none⟩ ∧ ∀ i, i < ps.length → ∃ vi, w.cell? ⟨b, off + i, none⟩ = some vi ∧ EntRow w vi (ps.getD i []))

theorem EntRow.below {w w' : World} {v : Value} {es : List Ent} (h : EntRow w v es) (hb : Below w.heap.size w w') : EntRow w' v es := by
  obtain ⟨ao, cap, h1, h2, h3⟩ := h
  refine ⟨ao, cap, h1, h2, fun hp => ?_⟩
  obtain ⟨b, off, h4, h5⟩ := h3 hp
  refine ⟨b, off, h4, fun j hj => ?_⟩
  obtain ⟨c0, c1, c2⟩ := h5 j hj
  have hlt : b < w.heap.size := World.block_lt_of_cell? w _ c0
  exact ⟨(hb.cell hlt).trans c0, (hb.cell hlt).trans c1, (hb.cell hlt).trans c2⟩

theorem Moved.cell {w w' : World} {a b : Value} (h : Moved w w' a b) {p : Addr} (hp : p.block < w.heap.size) (hne : a.ownBlock ≠ some p.block) : w'.cell? p = w.cell? p :=
  World.cell?_of_block (w := w) (h.1.block p.block hp (fun e => hne e.symm))
theorem Moved.frozen {w w' : World} {a b : Value} (h : Moved w w' a b) {p : Addr} (hp : p.block < w.heap.size) (hne : a.ownBlock ≠ some p.block) : w'.frozen? p = w.frozen? p :=
  World.frozen?_of_block (w := w) (h.1.block p.block hp (fun e => hne e.symm))
theorem Moved.owns {w w' : World} {a b v : Value} {B : Nat} {e : TypeId} {s n : Nat} {xs : List Value} (h : Moved w w' a b) (ho : w.ownsRow B e s v n xs) (hne : ∀ g, v.ownBlock = some g → a.ownBlock ≠ some g) : w'.ownsRow B e s v n xs := by
  refine ho.kept h.1 ?_
  cases hv : v.ownBlock with
  | none => exact .inl rfl
  | some g => exact .inr (fun e => hne g hv e.symm)
theorem Moved.below {w w' : World} {a b : Value} {B : Nat} (h : Moved w w' a b) (hB : B ≤ w.heap.size) (ha : ∀ g, a.ownBlock = some g → B ≤ g) : Below B w w' := below_of_grown h.1 hB ha

theorem or_one (g : Nat) (h : g < 65536) : bits .or .u64 ((g : Int) * 2) 1 = (g : Int) * 2 + 1 := by
  have h1 := (bits_nat .u64 64 (by decide) wraps_u64 (g * 2) 1 (by omega) (by decide)).2
  have e : (g * 2 ||| 1) = g * 2 + 1 := by
    have h2 := Nat.shiftLeft_eq g 1
    rw [show g * 2 = g <<< 1 by rw [h2]]
    exact (Nat.shiftLeft_add_eq_or_of_lt (by decide) g).symm
  rw [e] at h1
  have e2 : ((g * 2 : Nat) : Int) = (g : Int) * 2 := by omega
  have e3 : ((g * 2 + 1 : Nat) : Int) = (g : Int) * 2 + 1 := by omega
  rw [e2, e3] at h1
  exact h1

/-- One point, built. -/
def PtOK (B : Nat) (w : World) (P : Nat) (wv : Value) (es : List Ent) : Prop :=
  B ≤ P ∧ ∃ g cap, w.heap[P]? = some (.cells #[.int .i64 1125899906842624, .slice (some ⟨g, 0, none⟩) (encode es).length cap] 58 (0, 0)) ∧
    w.ownsRow B 5 1 (.slice (some ⟨g, 0, none⟩) (encode es).length cap) (encode es).length (Lib.byteCells (encode es)) ∧ w.ownsRow B 41 3 wv es.length (cluCells (decode 0 es))

theorem owns_same {B : Nat} {w w' : World} {e : TypeId} {s n : Nat} {v : Value} {xs : List Value} (h : w.ownsRow B e s v n xs) (hk : ∀ k, B ≤ k → k < w.heap.size → w'.heap[k]? = w.heap[k]?) : w'.ownsRow B e s v n xs := by
  refine ⟨h.1, ?_⟩
  rcases h.2 with h | ⟨g, cap, cur, a, b, c, d⟩
  · exact .inl h
  · exact .inr ⟨g, cap, cur, a, b, by rw [hk g b (Array.getElem?_eq_some_iff.1 c).1]; exact c, d⟩

theorem owns_base {w : World} {B B' : Nat} {e : TypeId} {s n : Nat} {v : Value} {xs : List Value} (h : w.ownsRow B e s v n xs) (hb : B' ≤ B) : w.ownsRow B' e s v n xs := by
  refine ⟨h.1, ?_⟩
  rcases h.2 with h | ⟨g, cap, cur, a, b, c⟩
  · exact .inl h
  · exact .inr ⟨g, cap, cur, a, by omega, c⟩

theorem PtOK.same {B : Nat} {w w' : World} {P : Nat} {wv : Value} {es : List Ent} (h : PtOK B w P wv es) (hk : ∀ k, B ≤ k → k < w.heap.size → w'.heap[k]? = w.heap[k]?) : PtOK B w' P wv es := by
  obtain ⟨h1, g, cap, h2, h3, h4⟩ := h
  exact ⟨h1, g, cap, by rw [hk P h1 (Array.getElem?_eq_some_iff.1 h2).1]; exact h2, owns_same h3 hk, owns_same h4 hk⟩

def ptr (P : Nat) : Value := .pointer (some ⟨P, 0, none⟩)

/-- The rows behind k points. -/
def Outer (S : Nat) (wr : World) (ps : List (List Ent)) (k : Nat) : Prop :=
  ∃ (PS : List Nat) (WV : List Value), PS.length = k ∧ WV.length = k ∧ wr.ownsRow S 56 1 (.slice (some ⟨S, 0, none⟩) k ps.length) k (PS.map ptr) ∧ wr.ownsRow S 31 1 (.slice (some ⟨S + 1, 0, none⟩) k ps.length) k WV ∧
    ∀ i, i < k → PtOK (S + 2) wr (PS.getD i 0) (WV.getD i (.slice none 0 0)) (ps.getD i [])

/-- The inner loop's state behind the first k entries. -/
def Inner (H : Nat) (w0 wx : World) (es : List Ent) (k : Nat) (bv wv : Value) : Prop :=
  wx.ownsRow H 5 1 bv (codes (es.take k)).length (Lib.byteCells (codes (es.take k))) ∧ wx.ownsRow H 41 3 wv k (cluCells (decode 0 (es.take k))) ∧ (∀ g, bv.ownBlock = some g → wv.ownBlock ≠ some g) ∧ Below H w0 wx

theorem lit_cells (wr : World) (l : List Value) (e : TypeId) (H : Nat) (hH : wr.heap.size = H) : ∀ (j : Nat) (u : Value), l[j]? = some u → (wr.alloc (.cells l.toArray e)).cell? ((⟨H, 0, none⟩ : Addr).add j) = some u := by
  intro j u hj
  subst hH
  have hadd : (⟨wr.heap.size, 0, none⟩ : Addr).add j = ⟨wr.heap.size, j, none⟩ := by unfold Addr.add; split <;> simp_all
  rw [hadd, cell_of_row _ _ j l.toArray e (0, 0) (heap_alloc_new wr _)]
  simpa using hj

/-- The inner loop's step, the bytes and the decoded entry laid. -/
theorem inner_step {H n2 g9 cap9 : Nat} {W1 w4 : World} {es : List Ent} {E : Ent} {v2 : Value} (hlt : n2 < es.length) (hE : es[n2] = E) (hA : w4.ownsRow H 5 1 v2 ((codes (es.take n2)).length + (code E).length) (Lib.byteCells (codes (es.take n2)) ++ Lib.byteCells (code E)))
    (hW : w4.ownsRow H 41 3 (.slice (some ⟨g9, 0, none⟩) (n2 + 1) cap9) (n2 + 1) (cluCells (decode 0 (es.take n2)) ++ cluCell ⟨nextOf 0 (es.take n2) + E.gap, E.zeros, if E.zeros then 0 else E.crc⟩))
    (hap : v2.ownBlock ≠ some g9) (hb : Below H W1 w4) : Inner H W1 w4 es (n2 + 1) v2 (.slice (some ⟨g9, 0, none⟩) (n2 + 1) cap9) := by
  have ht : es.take (n2 + 1) = es.take n2 ++ [E] := by rw [List.take_succ_eq_append_getElem hlt, hE]
  refine ⟨?_, ?_, fun g h h' => hap ?_, hb⟩
  · rw [ht, codes_snoc, Lib.byteCells_append, List.length_append]; exact hA
  · rw [ht, decode_snoc, cluCells_snoc]; exact hW
  · simp [Value.ownBlock] at h'; rw [h, h']

theorem next_step {n2 : Nat} {es : List Ent} {E : Ent} (hlt : n2 < es.length) (hE : es[n2] = E) : nextOf 0 (es.take (n2 + 1)) = nextOf 0 (es.take n2) + E.gap + 1 := by
  rw [List.take_succ_eq_append_getElem hlt, hE, nextOf_snoc]

theorem setCell_grown (w : World) (a : Addr) (u : Value) : w.grownBy (w.setCell a u) (some a.block) :=
  ⟨rfl, rfl, rfl, by simp [World.setCell], fun k _ hk => Below.heap_setCell w a u k (fun e => hk (by rw [e]))⟩

theorem own_ne {v : Value} {b : Nat} (h : ∀ g, v.ownBlock = some g → g ≠ b) : v.ownBlock = none ∨ v.ownBlock ≠ some b := by
  cases hv : v.ownBlock with
  | none => exact .inl rfl
  | some g => exact .inr (fun e => h g hv (by cases e; rfl))

theorem owns_one {w : World} {B n : Nat} {e : TypeId} {s : Nat} {v : Value} {xs : List Value} (h : w.ownsRow B e s v n xs) : v.oneCell' = true := by
  rcases h.2 with ⟨rfl, _⟩ | ⟨g, cap, cur, rfl, _⟩ <;> rfl

theorem outer_step {S H k g8 cap8 : Nat} {w W1 w4 w5 w6 : World} {ps : List (List Ent)} {es : List Ent} {u9 : Value} {PS : List Nat} {WV : List Value} {Bk Ck : Obj} (hk : k < ps.length) (hes : ps.getD k [] = es) (hH : W1.heap.size = H) (hSH : S + 2 ≤ H)
    (hPS : PS.length = k) (hWV : WV.length = k) (hpt : ∀ i, i < k → PtOK (S + 2) W1 (PS.getD i 0) (WV.getD i (.slice none 0 0)) (ps.getD i []))
    (hb : Below S w W1) (hb4 : Below H W1 w4)
    (hby : w4.ownsRow H 5 1 (.slice (some ⟨g8, 0, none⟩) ((codes es).length + 1) cap8) ((codes es).length + 1) (Lib.byteCells (codes es) ++ [.int .u8 0]))
    (hw : w4.ownsRow H 41 3 u9 es.length (cluCells (decode 0 es)))
    (hown5 : w5.ownsRow S 56 1 (.slice (some ⟨S, 0, none⟩) (k + 1) ps.length) (k + 1) (PS.map ptr ++ [ptr w4.heap.size]))
    (hg5 : ((w4.alloc (.cells #[.int .i64 1125899906842624, .slice (some ⟨g8, 0, none⟩) ((codes es).length + 1) cap8] 58)).alloc Bk).grownBy w5 (some S))
    (hown6 : w6.ownsRow S 31 1 (.slice (some ⟨S + 1, 0, none⟩) (k + 1) ps.length) (k + 1) (WV ++ [u9])) (hg6 : (w5.alloc Ck).grownBy w6 (some (S + 1))) :
    Outer S w6 ps (k + 1) ∧ Below S w w6 ∧ S + 2 ≤ w6.heap.size := by
  have hs4 := hb4.size
  have hs5 := hg5.size
  have hs6 := hg6.size
  simp only [World.size_alloc] at hs5 hs6
  have c56 : ∀ j, S + 2 ≤ j → j < w5.heap.size → w6.heap[j]? = w5.heap[j]? := by
    intro j h1 h2
    rw [hg6.block j (by simp; omega) (by simp; omega), heap_alloc_old _ _ h2]
  have c46 : ∀ j, S + 2 ≤ j → j < w4.heap.size → w6.heap[j]? = w4.heap[j]? := by
    intro j h1 h2
    rw [c56 j h1 (by omega), hg5.block j (by simp; omega) (by simp; omega), heap_alloc_old _ _ (by simp; omega), heap_alloc_old _ _ h2]
  have c16 : ∀ j, S + 2 ≤ j → j < W1.heap.size → w6.heap[j]? = W1.heap[j]? := by
    intro j h1 h2
    rw [c46 j h1 (by omega), hb4.block j (by omega)]
  refine ⟨⟨PS ++ [w4.heap.size], WV ++ [u9], by simp [hPS], by simp [hWV], ?_, hown6, fun i hi => ?_⟩, ?_, by omega⟩
  · rw [List.map_append]
    have h := hown5.alloc Ck
    exact h.kept hg6 (.inr (by simp [Value.ownBlock]))
  · by_cases e : i = k
    · subst e
      have e1 : (PS ++ [w4.heap.size]).getD i 0 = w4.heap.size := by simp [List.getD, ← hPS]
      have e2 : (WV ++ [u9]).getD i (.slice none 0 0) = u9 := by simp [List.getD, ← hWV]
      rw [e1, e2, hes]
      refine ⟨by omega, g8, cap8, ?_, ?_, owns_same (owns_base hw hSH) c46⟩
      · rw [c56 _ (by omega) (by omega), hg5.block _ (by simp; omega) (by simp; omega), heap_alloc_old _ _ (by simp), heap_alloc_new]
        have e3 : (encode es).length = (codes es).length + 1 := by simp [encode]
        rw [e3]
      · have e3 : (encode es).length = (codes es).length + 1 := by simp [encode]
        have e4 : Lib.byteCells (encode es) = Lib.byteCells (codes es) ++ [.int .u8 0] := by rw [encode, Lib.byteCells_append]; rfl
        rw [e3, e4]
        exact owns_same (owns_base hby hSH) c46
    · have h := (hpt i (by omega)).same c16
      have e1 : (PS ++ [w4.heap.size]).getD i 0 = PS.getD i 0 := by simp only [List.getD]; rw [List.getElem?_append_left (by omega)]
      have e2 : (WV ++ [u9]).getD i (.slice none 0 0) = WV.getD i (.slice none 0 0) := by simp only [List.getD]; rw [List.getElem?_append_left (by omega)]
      rw [e1, e2]
      exact h
  · have h4 : Below S w w4 := hb.trans (hb4.mono (by omega))
    have h5 : Below S w w5 := ((h4.alloc (by omega) _).alloc (by simp; omega) _).grown hg5 (by simp; omega) (fun j h => by cases h; exact Nat.le_refl _)
    exact (h5.alloc (by omega) _).grown hg6 (by simp; omega) (fun j h => by cases h; omega)

theorem code_nz {E : Ent} (h : E.zeros = false) : code E = Lib.uvarint (numOf E) ++ Lib.beBytes 4 E.crc := by unfold code; rw [h]; rfl
theorem code_z {E : Ent} (h : E.zeros = true) : code E = Lib.uvarint (numOf E) := by unfold code; rw [h]; simp

set_option maxHeartbeats 2000000 in
set_option maxRecDepth 100000 in
theorem build_any (v0 : Value) (ps : List (List Ent)) (w : World) (hp : PtsRow w v0 ps) (hn : ps.length ≤ 64) (hl : ∀ p ∈ ps, p.length ≤ 256) :
    Calls Yba.prog 6 #[v0] w fun e w' => e = .returned (.tuple #[.slice (some ⟨w.heap.size, 0, none⟩) ps.length ps.length, .slice (some ⟨w.heap.size + 1, 0, none⟩) ps.length ps.length]) ∧ Outer w.heap.size w' ps ps.length ∧ Below w.heap.size w w' := by
  obtain ⟨ao, cap, rfl, hrow⟩ := hp
  obtain ⟨i56, hi56, hz56, hs56, hb56⟩ := info_parts info56
  obtain ⟨i31, hi31, hz31, hs31, hb31⟩ := info_parts info31
  obtain ⟨i41, hi41, hz41, hs41, hb41⟩ := info_parts info41
  obtain ⟨i5, hi5, hz5, hs5, hb5⟩ := info_parts info5
  have hmk1 := fun w => run_make (P := Yba.prog) w 24 56 i56 _ Yba.underlying24 hi56 hz56 .i64 .i64 0 (ps.length : Int) (by omega) (by omega) (by rw [hb56]; omega) (by omega)
  have hmk2 := fun w => run_make (P := Yba.prog) w 25 31 i31 _ Yba.underlying25 hi31 hz31 .i64 .i64 0 (ps.length : Int) (by omega) (by omega) (by rw [hb31]; omega) (by omega)
  go_enter Yba.func6, Yba.ntmps6
  go_wp2_with fail
  have hb0 : Below w.heap.size w ((w.alloc (.cells (madeCells #[.pointer none] ps.length) 56)).alloc (.cells (madeCells #[.slice none 0 0] ps.length) 31)) := ((Below.refl _ _).alloc (Nat.le_refl _) _).alloc (by simp) _
  have ho0 : Outer w.heap.size ((w.alloc (.cells (madeCells #[.pointer none] ps.length) 56)).alloc (.cells (madeCells #[.slice none 0 0] ps.length) 31)) ps 0 := by
    refine ⟨[], [], rfl, rfl, ?_, ?_, fun i h => by omega⟩
    · exact (World.ownsRow_made w _ ps.length (Nat.le_refl _) (by unfold maxLen; omega) (by simp [size_madeCells])).alloc _
    · have h := World.ownsRow_made (base := w.heap.size) (e := 31) (size := 1) (w.alloc (.cells (madeCells #[.pointer none] ps.length) 56)) (madeCells #[.slice none 0 0] ps.length) ps.length (by simp) (by unfold maxLen; omega) (by simp [size_madeCells])
      simpa using h
  have hs0 : w.heap.size + 2 ≤ ((w.alloc (.cells (madeCells #[.pointer none] ps.length) 56)).alloc (.cells (madeCells #[.slice none 0 0] ps.length) 31)).heap.size := by simp
  generalize (w.alloc (.cells (madeCells #[.pointer none] ps.length) 56)).alloc (.cells (madeCells #[.slice none 0 0] ps.length) 31) = W0 at hb0 ho0 hs0 ⊢
  clear hmk1 hmk2
  generalize hS : w.heap.size = S at *
  go_loopw [4, 5, 23] (fun sv wv i wr => ∃ k : Nat, k ≤ ps.length ∧ i = .int .i64 k ∧ sv = .slice (some ⟨S, 0, none⟩) k ps.length ∧ wv = .slice (some ⟨S + 1, 0, none⟩) k ps.length ∧ Outer S wr ps k ∧ Below S w wr ∧ S + 2 ≤ wr.heap.size) (fun _ _ i _ => ps.length - (intOf i).toNat)
  case atStart => exact ⟨0, Nat.zero_le _, rfl, rfl, rfl, ho0, hb0, hs0⟩
  case round =>
    obtain ⟨k, hk, rfl, rfl, rfl, ho, hb, hsz⟩ := hrel
    clear ho0 hb0 hs0
    by_cases hlt : k < ps.length
    · obtain ⟨b, off, rfl, hcell⟩ := hrow (by omega)
      obtain ⟨vi, c1, hent⟩ := hcell k hlt
      have hbw : Below w.heap.size w wr := by rw [hS]; exact hb
      have c1' : wr.cell? ⟨b, off + k, none⟩ = some vi := by rw [hbw.cell (World.block_lt_of_cell? w _ c1)]; exact c1
      have hent' := hent.below hbw
      have hel : (ps.getD k []).length ≤ 256 := by
        have : ps.getD k [] = ps[k] := by simp [List.getD, hlt]
        rw [this]; exact hl _ (List.getElem_mem hlt)
      generalize hes : ps.getD k [] = es at *
      obtain ⟨eo, ecap, rfl, hok, hecell⟩ := hent'
      clear hcell hrow hent c1
      go_wp2_with fail
      rename World => W1
      generalize hH : W1.heap.size = H at *
      go_loopw [8, 9, 10, 29] (fun bv wv lst j wx => ∃ n2 : Nat, n2 ≤ es.length ∧ j = .int .i64 n2 ∧ lst = .int .i64 ((nextOf 0 (es.take n2) : Int) - 1) ∧ Inner H W1 wx es n2 bv wv) (fun _ _ _ j _ => es.length - (intOf j).toNat)
      case atStart => exact ⟨0, Nat.zero_le _, rfl, rfl, World.ownsRow_nil _ _ _ _, World.ownsRow_nil _ _ _ _, fun g h => by simp [Value.ownBlock] at h, Below.refl _ _⟩
      case round =>
        obtain ⟨n2, hn2, rfl, rfl, hI⟩ := hrel
        by_cases hlt2 : n2 < es.length
        · obtain ⟨eb, eoff, rfl, hec⟩ := hecell (by omega)
          obtain ⟨e0, e1, e2⟩ := hec n2 hlt2
          have hokk := hok _ (List.getElem_mem hlt2)
          obtain ⟨hI1, hI2, hI3, hI4⟩ := hI
          have hnx := nextOf_le (es.take n2) 0 (fun x hx => hok x (List.mem_of_mem_take hx))
          have hcl := codes_len (es.take n2) (fun x hx => hok x (List.mem_of_mem_take hx))
          have htl : (es.take n2).length = n2 := by simp; omega
          generalize hE : es[n2] = E at *
          obtain ⟨hg, hc⟩ := hokk
          have hEb : eb < H := by have := World.block_lt_of_cell? _ _ e0; rw [hH] at this; exact this
          have f0 := (hI4.cell hEb).trans e0
          have f1 := (hI4.cell hEb).trans e1
          have f2 := (hI4.cell hEb).trans e2
          generalize hN : nextOf 0 (es.take n2) = N at *
          have hsz2 : H ≤ wr.heap.size := by have := hI4.size; omega
          have hb1 : ∀ g, u8.ownBlock = some g → H ≤ g ∧ g < wr.heap.size := fun g h => hI1.lt g h
          have hb2 : ∀ g, u9.ownBlock = some g → H ≤ g ∧ g < wr.heap.size := fun g h => hI2.lt g h
          cases hz : E.zeros
          · rw [hz] at f1
            go_wp2_with fail
            rw [show ((E.gap : Int) * 2 + 1) = ((numOf E : Nat) : Int) by unfold numOf; rw [hz]; simp; omega]
            refine (appendUvarint H (codes (es.take n2)).length (numOf E) (by have := numOf_lt E ⟨hg, hc⟩; omega) u8 _ _ (hI1.alloc _) (by simp; omega) (by omega)).mono ?_
            rintro e w1 ⟨v1, rfl, hA, hM⟩
            have q0 := hM.cell (p := ⟨wr.heap.size, 0, none⟩) (by simp) (fun h => by have := (hb1 _ h).2; simp at this)
            have q1 := hM.cell (p := ⟨wr.heap.size, 1, none⟩) (by simp) (fun h => by have := (hb1 _ h).2; simp at this)
            have q2 := hM.cell (p := ⟨wr.heap.size, 2, none⟩) (by simp) (fun h => by have := (hb1 _ h).2; simp at this)
            have qs := hM.1.size
            simp only [World.size_alloc] at qs
            have qlt : wr.heap.size < w1.heap.size := by omega
            rw [show (wr.alloc (Obj.cells #[Value.int .u16 E.gap, Value.bool false, Value.int .u32 E.crc] 49)).cell? ⟨wr.heap.size, 0, none⟩ = some (.int .u16 E.gap) by go_simp] at q0
            rw [show (wr.alloc (Obj.cells #[Value.int .u16 E.gap, Value.bool false, Value.int .u32 E.crc] 49)).cell? ⟨wr.heap.size, 1, none⟩ = some (.bool false) by go_simp] at q1
            rw [show (wr.alloc (Obj.cells #[Value.int .u16 E.gap, Value.bool false, Value.int .u32 E.crc] 49)).cell? ⟨wr.heap.size, 2, none⟩ = some (.int .u32 E.crc) by go_simp] at q2
            go_wp2_with fail
            have hv1 : ∀ g, v1.ownBlock = some g → g ≠ wr.heap.size ∧ g < w1.heap.size := by
              intro g h
              refine ⟨fun e => ?_, (hA.lt g h).2⟩
              rcases hM.2 g h with h' | h'
              · have := (hb1 g h').2; omega
              · simp at h'; omega
            have hI2' : w1.ownsRow H 41 3 u9 n2 (cluCells (decode 0 (es.take n2))) := hM.owns (hI2.alloc _) (fun g h h' => hI3 g h' h)
            refine (appendU32 H _ E.crc hc v1 _ _ (hA.alloc _) (by simp; omega) (by have h3 : (Lib.uvarint (numOf E)).length ≤ 3 := Lib.uvarint_length 2 _ (by have := numOf_lt E ⟨hg, hc⟩; omega)
                                                                                    omega)).mono ?_
            rintro e w2 ⟨v2, rfl, hA2, hM2⟩
            have rs := hM2.1.size
            simp only [World.size_alloc] at rs
            have rlt : w1.heap.size < w2.heap.size := by omega
            have rlt2 : wr.heap.size < w2.heap.size := by omega
            have q2' : w2.cell? ⟨wr.heap.size, 2, none⟩ = some (.int .u32 E.crc) := by
              rw [hM2.cell (p := ⟨wr.heap.size, 2, none⟩) (by simp; omega) (fun h => (hv1 _ h).1 rfl), World.cell?_alloc_lt _ _ _ qlt]
              exact q2
            have r0 : w2.cell? ⟨w1.heap.size, 0, none⟩ = some (.int .i64 ((N : Int) + E.gap)) := by
              rw [hM2.cell (p := ⟨w1.heap.size, 0, none⟩) (by simp) (fun h => by have := (hv1 _ h).2; simp at this)]; go_simp
            have r1 : w2.cell? ⟨w1.heap.size, 1, none⟩ = some (.bool false) := by
              rw [hM2.cell (p := ⟨w1.heap.size, 1, none⟩) (by simp) (fun h => by have := (hv1 _ h).2; simp at this)]; go_simp
            have r2 : w2.cell? ⟨w1.heap.size, 2, none⟩ = some (.int .u32 0) := by
              rw [hM2.cell (p := ⟨w1.heap.size, 2, none⟩) (by simp) (fun h => by have := (hv1 _ h).2; simp at this)]; go_simp
            have rf : w2.frozen? ⟨w1.heap.size, 2, none⟩ = false := by
              rw [hM2.frozen (p := ⟨w1.heap.size, 2, none⟩) (by simp) (fun h => by have := (hv1 _ h).2; simp at this)]; go_simp
            have hI2'' : w2.ownsRow H 41 3 u9 n2 (cluCells (decode 0 (es.take n2))) := hM2.owns (hI2'.alloc _) (fun g h h' => by
              rcases hM.2 g h' with h3 | h3
              · exact hI3 g h3 h
              · simp at h3; have := (hb2 g h).2; omega)
            have hcg : w2.grownBy (w2.setCell ⟨w1.heap.size, 2, none⟩ (.int .u32 E.crc)) (some w1.heap.size) := setCell_grown w2 ⟨w1.heap.size, 2, none⟩ (.int .u32 E.crc)
            have hI2s := hI2''.kept hcg (own_ne (fun g h => by have := (hb2 g h).2; omega))
            have hA2s := hA2.kept hcg (own_ne (fun g h => by
              rcases hM2.2 g h with h3 | h3
              · have := (hv1 g h3).2; omega
              · simp at h3; omega))
            have hbl : Below H W1 (w2.setCell ⟨w1.heap.size, 2, none⟩ (.int .u32 E.crc)) := by
              refine Below.setCell ?_ (by simp; omega) _
              refine Below.trans ?_ (hM2.below (by simp; omega) (fun g h => (hA.lt g h).1))
              refine Below.alloc ?_ (by omega) _
              exact (hI4.alloc hsz2 _).trans (hM.below (by simp; omega) (fun g h => (hb1 g h).1))
            have hap : ∀ g, v2.ownBlock = some g → u9.ownBlock ≠ some g := by
              intro g h h'
              have h9 := (hb2 g h').2
              rcases hM2.2 g h with h3 | h3
              · rcases hM.2 g h3 with h4 | h4
                · exact hI3 g h4 h'
                · simp at h4; omega
              · simp at h3; omega
            have hlt9 : ∀ g, v2.ownBlock = some g → g < w2.heap.size := fun g h => (hA2.lt g h).2
            clear hM hM2 hI1 hI2 hI2' hI2'' hA hA2 hcg hI3 hI4 hv1
            go_wp2_with (at_builtin; refine wpList_append_lies _ rfl _ _ 31 rfl H 41 i41 _ 3 16 Yba.underlying31 hi41 hz41 hs41 hb41 rfl (by decide) _ _ _ rfl (hI2s.alloc _) _ 1 1 [.int .i64 ((N : Int) + E.gap), .bool false, .int .u32 E.crc] rfl rfl ?c1 ?c2 (by decide) ?c3 ?c4 ?c5 _ rfl ?_)
            case c1 => exact lit_cells _ _ 41 _ (by simp)
            case c2 => intro u hu; simp at hu; rcases hu with rfl | rfl | rfl <;> rfl
            case c3 => unfold maxLen; omega
            case c4 => omega
            case c5 => simp; omega
            intro g9 cap9 w4 hown4 hgrow4 hat4 hlt4
            have t0 : w4.cell? ⟨w1.heap.size, 0, none⟩ = some (.int .i64 ((N : Int) + E.gap)) := by
              refine hgrow4.cell (a := ⟨w1.heap.size, 0, none⟩) ?_ (fun h => by have := (hb2 w1.heap.size h.symm).2; omega)
              rw [World.cell?_alloc_lt _ _ _ (show w1.heap.size < _ by simp; omega)]
              go_simp
            have hA4 := (hA2s.alloc (.cells #[.int .i64 ((N : Int) + E.gap), .bool false, .int .u32 E.crc] 41)).kept hgrow4 (by
              cases hv : v2.ownBlock with
              | none => exact .inl rfl
              | some g => exact .inr (fun e => hap g hv e.symm))
            have hb4 : Below H W1 w4 := (hbl.alloc (by simp; omega) _).grown hgrow4 (by simp; omega) (fun g h => (hb2 g h).1)
            have hap4 : v2.ownBlock ≠ some g9 := by
              intro h
              rcases hat4 with h4 | h4
              · exact hap g9 h h4
              · have := hlt9 g9 h; omega
            have hst := inner_step (E := E) (g9 := g9) (cap9 := cap9) hlt2 hE (by rw [code_nz hz, Lib.byteCells_append, List.length_append, Lib.beBytes_length, ← List.append_assoc, ← Nat.add_assoc]; exact hA4) (by rw [hz, hN]; exact hown4) hap4 hb4
            have hns := next_step hlt2 hE
            clear hown4 hgrow4 hat4 hlt4 hA4 hA2s hI2s hbl hb4
            go_wp2_with fail
            go_roundw
            case rel => exact ⟨n2 + 1, by omega, by go_num, by rw [hns, hN]; go_num, hst⟩
            case measure => simp [intOf]; omega
          · rw [hz] at f1
            have hor := or_one E.gap hg
            go_wp2_with fail
            rw [show ((E.gap : Int) * 2 + 1 + 1) = ((numOf E : Nat) : Int) by unfold numOf; rw [hz]; simp; omega]
            refine (appendUvarint H (codes (es.take n2)).length (numOf E) (by have := numOf_lt E ⟨hg, hc⟩; omega) u8 _ _ (hI1.alloc _) (by simp; omega) (by omega)).mono ?_
            rintro e w1 ⟨v1, rfl, hA, hM⟩
            have q0 := hM.cell (p := ⟨wr.heap.size, 0, none⟩) (by simp) (fun h => by have := (hb1 _ h).2; simp at this)
            have q1 := hM.cell (p := ⟨wr.heap.size, 1, none⟩) (by simp) (fun h => by have := (hb1 _ h).2; simp at this)
            have qs := hM.1.size
            simp only [World.size_alloc] at qs
            have qlt : wr.heap.size < w1.heap.size := by omega
            rw [show (wr.alloc (Obj.cells #[Value.int .u16 E.gap, Value.bool true, Value.int .u32 E.crc] 49)).cell? ⟨wr.heap.size, 0, none⟩ = some (.int .u16 E.gap) by go_simp] at q0
            rw [show (wr.alloc (Obj.cells #[Value.int .u16 E.gap, Value.bool true, Value.int .u32 E.crc] 49)).cell? ⟨wr.heap.size, 1, none⟩ = some (.bool true) by go_simp] at q1
            have hI2' : w1.ownsRow H 41 3 u9 n2 (cluCells (decode 0 (es.take n2))) := hM.owns (hI2.alloc _) (fun g h h' => hI3 g h' h)
            have hbl : Below H W1 (w1.alloc (.cells #[.int .i64 ((N : Int) + E.gap), .bool true, .int .u32 0] 41)) := by
              refine Below.alloc ?_ (by omega) _
              exact (hI4.alloc hsz2 _).trans (hM.below (by simp; omega) (fun g h => (hb1 g h).1))
            have hap : ∀ g, v1.ownBlock = some g → u9.ownBlock ≠ some g := by
              intro g h h'
              have h9 := (hb2 g h').2
              rcases hM.2 g h with h4 | h4
              · exact hI3 g h4 h'
              · simp at h4; omega
            have hlt9 : ∀ g, v1.ownBlock = some g → g < w1.heap.size := fun g h => (hA.lt g h).2
            clear hM hI1 hI2 hI3 hI4
            go_wp2_with (at_builtin; refine wpList_append_lies _ rfl _ _ 31 rfl H 41 i41 _ 3 16 Yba.underlying31 hi41 hz41 hs41 hb41 rfl (by decide) _ _ _ rfl ((hI2'.alloc _).alloc _) _ 1 1 [.int .i64 ((N : Int) + E.gap), .bool true, .int .u32 0] rfl rfl ?c1 ?c2 (by decide) ?c3 ?c4 ?c5 _ rfl ?_)
            case c1 => exact lit_cells _ _ 41 _ (by simp)
            case c2 => intro u hu; simp at hu; rcases hu with rfl | rfl | rfl <;> rfl
            case c3 => unfold maxLen; omega
            case c4 => omega
            case c5 => simp; omega
            intro g9 cap9 w4 hown4 hgrow4 hat4 hlt4
            have t0 : w4.cell? ⟨w1.heap.size, 0, none⟩ = some (.int .i64 ((N : Int) + E.gap)) := by
              refine hgrow4.cell (a := ⟨w1.heap.size, 0, none⟩) ?_ (fun h => by have := (hb2 w1.heap.size h.symm).2; omega)
              go_simp
            have hA4 := ((hA.alloc (.cells #[.int .i64 ((N : Int) + E.gap), .bool true, .int .u32 0] 41)).alloc (.cells #[.int .i64 ((N : Int) + E.gap), .bool true, .int .u32 0] 41)).kept hgrow4 (by
              cases hv : v1.ownBlock with
              | none => exact .inl rfl
              | some g => exact .inr (fun e => hap g hv e.symm))
            have hb4 : Below H W1 w4 := (hbl.alloc (by simp; omega) _).grown hgrow4 (by simp; omega) (fun g h => (hb2 g h).1)
            have hap4 : v1.ownBlock ≠ some g9 := by
              intro h
              rcases hat4 with h4 | h4
              · exact hap g9 h h4
              · have := hlt9 g9 h; omega
            have hst := inner_step (E := E) (g9 := g9) (cap9 := cap9) hlt2 hE (by rw [code_z hz]; exact hA4) (by rw [hz, hN]; exact hown4) hap4 hb4
            have hns := next_step hlt2 hE
            clear hown4 hgrow4 hat4 hlt4 hA4 hA hI2' hbl hb4
            go_wp2_with fail
            go_roundw
            case rel => exact ⟨n2 + 1, by omega, by go_num, by rw [hns, hN]; go_num, hst⟩
            case measure => simp [intOf]; omega
        · obtain rfl : n2 = es.length := by omega
          obtain ⟨hI1, hI2, hI3, hI4⟩ := hI
          rw [List.take_of_length_le (Nat.le_refl _)] at hI1 hI2
          have hcl := codes_len es hok
          have hsz2 : H ≤ wr.heap.size := by have := hI4.size; omega
          have hb1 : ∀ g, u8.ownBlock = some g → H ≤ g ∧ g < wr.heap.size := fun g h => hI1.lt g h
          go_wp2_with (at_builtin; refine wpList_append_lies _ rfl _ _ 36 rfl H 5 i5 _ 1 1 Yba.underlying36 hi5 hz5 hs5 hb5 rfl (by decide) _ _ _ rfl (hI1.alloc _) _ 1 1 [.int .u8 0] rfl rfl ?c1 ?c2 (by decide) ?c3 ?c4 ?c5 _ rfl ?_)
          case c1 => exact lit_cells _ _ 5 _ (by simp)
          case c2 => intro u hu; simp at hu; subst hu; rfl
          case c3 => unfold maxLen; omega
          case c4 => omega
          case c5 => simp; omega
          intro g8 cap8 w4 hown4 hgrow4 hat4 hlt4
          obtain ⟨PS, WV, hPS, hWV, hs1, hs2, hpt⟩ := ho
          obtain ⟨a9, c9, rfl⟩ : ∃ a c, u9 = .slice a es.length c := by
            rcases hI2.2 with ⟨h1, h2⟩ | ⟨g, c, cur, h1, _⟩
            · exact ⟨none, 0, by rw [h1, h2]⟩
            · exact ⟨_, c, h1⟩
          have hb4 : Below H W1 w4 := (hI4.alloc hsz2 _).grown hgrow4 (by simp; omega) (fun g h => (hb1 g h).1)
          have hW4 : w4.ownsRow H 41 3 (.slice a9 es.length c9) es.length (cluCells (decode 0 es)) := (hI2.alloc _).kept hgrow4 (by
              cases hv : (Value.slice a9 es.length c9).ownBlock with
              | none => exact .inl rfl
              | some g => exact .inr (fun e => hI3 g e.symm hv))
          have hsame : ∀ j, S ≤ j → j < W1.heap.size → w4.heap[j]? = W1.heap[j]? := fun j h1 h2 => hb4.block j (by omega)
          have hs1' := owns_same hs1 hsame
          have hs2' := owns_same hs2 hsame
          have hs4 := hb4.size
          clear hgrow4 hat4 hI1 hI2 hI3 hI4
          go_wp2_with (at_builtin; refine wpList_append_fits _ rfl (.tmp 75) (.tmp 79) 24 rfl S 56 i56 1 Yba.underlying24 hi56 hs56 S k ps.length (PS.map ptr) rfl ((hs1'.alloc _).alloc _) _ 1 1 [ptr w4.heap.size] rfl rfl ?d1 ?d2 ?d3 ?_)
          case d1 => exact lit_cells _ _ 56 _ (by simp)
          case d2 => intro u hu; simp at hu; subst hu; rfl
          case d3 => omega
          intro w5 hown5 hgrow5
          have hs5 := hgrow5.size
          simp only [World.size_alloc] at hs5
          have hs2'' : w5.ownsRow S 31 1 (.slice (some ⟨S + 1, 0, none⟩) k ps.length) k WV := ((hs2'.alloc _).alloc _).kept hgrow5 (.inr (by simp [Value.ownBlock]))
          go_wp2_with (at_builtin; refine wpList_append_fits _ rfl (.tmp 81) (.tmp 83) 25 rfl S 31 i31 1 Yba.underlying25 hi31 hs31 (S + 1) k ps.length WV rfl (hs2''.alloc _) _ 1 1 [.slice a9 es.length c9] rfl rfl ?f1 ?f2 ?f3 ?_)
          case f1 => exact lit_cells _ _ 31 _ (by simp)
          case f2 => intro u hu; simp at hu; subst hu; exact owns_one hW4
          case f3 => omega
          intro w6 hown6 hgrow6
          have hfin := outer_step hlt hes hH hsz hPS hWV hpt hb hb4 hown4 hW4 hown5 hgrow5 hown6 hgrow6
          clear hown5 hgrow5 hown6 hgrow6 hs1 hs2 hs1' hs2' hs2'' hpt
          go_wp2_with fail
          go_roundw
          case rel => exact ⟨k + 1, by omega, by go_num, rfl, rfl, hfin.1, hfin.2.1, hfin.2.2⟩
          case measure => simp [intOf]; omega
    · obtain rfl : k = ps.length := by omega
      go_wp2_with fail
      go_ret2
      exact ⟨by rw [hS]; rfl, by rw [hS]; exact ho, by rw [hS]; exact hb⟩
end Go.Proofs.Ybulkbmoi
