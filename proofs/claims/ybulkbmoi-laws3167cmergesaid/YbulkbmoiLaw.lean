/-
  LawS3167CMerge, walked.
-/
import Derived.Test.YbulkbmoiHeads
import Derived.Test.YbulkbmoiSorted
import Derived.Test.YbulkbmoiInsert2
namespace Go.Proofs.Ybulkbmoi
open Go.RowKit Go

theorem insert_any (T n i vb : Nat) (v : Value) (l vs : List Value) (w : World) (hown : w.ownsRow T 41 3 v n l) (hi : i ≤ n) (hn : n ≤ 4096) (hT : T ≤ w.heap.size) (hvb : v.ownBlock ≠ some vb) (hvl : vs.length = 3) (hvs : w.heap[vb]? = some (.cells vs.toArray 41 (0, 0))) (h1 : ∀ u ∈ vs, u.oneCell' = true) (h1c : ∀ u ∈ l, u.oneCell' = true) :
    Calls Yba.prog 8 #[v, .int .i64 i, .slice (some ⟨vb, 0, none⟩) 1 1] w (InsPost T v l n i vs w) := by
  by_cases he : i = n
  · subst he
    exact insert_end T i vb v l vs w hown hn hT hvl hvs h1
  · rcases hown.2 with ⟨_, h0⟩ | ⟨g, cap, cur, rfl, hTg, hg, hnc, hcm, hsz, htk⟩
    · omega
    · by_cases hr : n + 1 ≤ cap
      · exact insert_room T n cap g i vb cur l vs w hg hTg hsz htk hr hcm (by omega) hn (fun e => hvb (by simp [Value.ownBlock, e])) hvl hvs h1 h1c
      · obtain rfl : n = cap := by omega
        exact insert_grow T n g i vb cur l vs w hg hT hsz htk (by omega) hn hvl hvs h1 h1c

theorem getD_clu (l : List Clu) (j : Nat) (h : j < l.length) : l.getD j dClu = l[j] := by simp [List.getD, h]

def OutRow (T : Nat) (w : World) (v : Value) (out : List Clu) : Prop := w.ownsRow T 41 3 v out.length (cluCells out)

theorem outer_below {S : Nat} {w w' : World} {ps : List (List Ent)} {k : Nat} (h : Outer S w ps k) (hb : Below w.heap.size w w') : Outer S w' ps k := by
  obtain ⟨PS, WV, h1, h2, h3, h4, h5⟩ := h
  refine ⟨PS, WV, h1, h2, owns_of_old h3 hb.block, owns_of_old h4 hb.block, fun i hi => ?_⟩
  obtain ⟨a, g, cap, b, c, d⟩ := h5 i hi
  exact ⟨a, g, cap, by rw [hb.block _ (Array.getElem?_eq_some_iff.1 b).1]; exact b, owns_of_old c hb.block, owns_of_old d hb.block⟩

/-- The wanted row of point i, and its cells. -/
theorem want_row {S k i : Nat} {w : World} {ps : List (List Ent)} (h : Outer S w ps k) (hi : i < k) :
    ∃ a c, w.cell? ⟨S + 1, i, none⟩ = some (.slice a (ps.getD i []).length c) ∧ ∀ j, j < (ps.getD i []).length → ∃ g, a = some ⟨g, 0, none⟩ ∧ g < w.heap.size ∧ w.cell? ⟨g, j * 3, none⟩ = some (.int .i64 ((decode 0 (ps.getD i [])).getD j dClu).idx) ∧ w.cell? ⟨g, j * 3 + 1, none⟩ = some (.bool ((decode 0 (ps.getD i [])).getD j dClu).zeros) ∧ w.cell? ⟨g, j * 3 + 2, none⟩ = some (.int .u32 ((decode 0 (ps.getD i [])).getD j dClu).crc) := by
  obtain ⟨PS, WV, h1, h2, h3, h4, h5⟩ := h
  obtain ⟨_, gb, capb, _, _, hw⟩ := h5 i hi
  have hc : w.cell? ⟨S + 1, i, none⟩ = some (WV.getD i (.slice none 0 0)) := by
    rw [h4.cellAt i (by omega)]
    have : i < WV.length := by omega
    simp [List.getD, this]
  obtain ⟨a, c, hv⟩ : ∃ a c, WV.getD i (.slice none 0 0) = .slice a (ps.getD i []).length c := by
    rcases hw.2 with ⟨h1, h2⟩ | ⟨g, c, cur, h1, _⟩
    · exact ⟨none, 0, by rw [h1, h2]⟩
    · exact ⟨_, c, h1⟩
  rw [hv] at hc hw
  refine ⟨a, c, hc, fun j hj => ?_⟩
  obtain ⟨gw, cw, hf, _, hlt⟩ := hw.form (by omega)
  simp only [Value.slice.injEq, true_and] at hf
  obtain ⟨rfl, rfl⟩ := hf
  have hd : j < (decode 0 (ps.getD i [])).length := by rw [decode_length]; exact hj
  have hat := cluCells_at (decode 0 (ps.getD i [])) j hd
  have e : (decode 0 (ps.getD i [])).getD j dClu = (decode 0 (ps.getD i []))[j] := getD_clu _ _ hd
  rw [e]
  refine ⟨gw, rfl, hlt, ?_, ?_, ?_⟩
  · rw [hw.cellAt (j * 3) (by omega)]; exact hat.1
  · rw [hw.cellAt (j * 3 + 1) (by omega)]; exact hat.2.1
  · rw [hw.cellAt (j * 3 + 2) (by omega)]; exact hat.2.2

/-- The first k points' clusters, inserted. -/
def outN (ps : List (List Ent)) (k : Nat) : List Clu := outOf ((ps.take k).flatMap (decode 0))
def outJ (ps : List (List Ent)) (k j : Nat) : List Clu := ((decode 0 (ps.getD k [])).take j).foldl ins (outN ps k)

theorem outJ_zero (ps : List (List Ent)) (k : Nat) : outJ ps k 0 = outN ps k := rfl
theorem outJ_succ (ps : List (List Ent)) (k j : Nat) (h : j < (ps.getD k []).length) : outJ ps k (j + 1) = ins (outJ ps k j) ((decode 0 (ps.getD k [])).getD j dClu) := by
  unfold outJ
  have hd : j < (decode 0 (ps.getD k [])).length := by rw [decode_length]; exact h
  rw [List.take_succ_eq_append_getElem hd, List.foldl_append, getD_clu _ _ hd]
  rfl
theorem outJ_all (ps : List (List Ent)) (k : Nat) (h : k < ps.length) : outJ ps k (ps.getD k []).length = outN ps (k + 1) := by
  unfold outJ outN outOf
  have hd : (decode 0 (ps.getD k [])).length = (ps.getD k []).length := decode_length _ _
  have e : ps.getD k [] = ps[k] := by simp [List.getD, h]
  rw [← hd, List.take_length, List.take_succ_eq_append_getElem h, List.flatMap_append, List.foldl_append, e]
  simp

theorem flat_len (ps : List (List Ent)) (hl : ∀ p ∈ ps, p.length ≤ 256) : (ps.flatMap (decode 0)).length ≤ ps.length * 256 := by
  induction ps with
  | nil => simp
  | cons p ps ih =>
    have h1 := ih (fun q hq => hl q (by simp [hq]))
    have h2 := hl p (by simp)
    rw [List.flatMap_cons, List.length_append, decode_length, List.length_cons]
    omega

theorem outJ_len (ps : List (List Ent)) (k j : Nat) (hk : k < ps.length) (h16 : ps.length ≤ 16) (hl : ∀ p ∈ ps, p.length ≤ 256) : (outJ ps k j).length ≤ 4096 := by
  have h1 := fold_length ((decode 0 (ps.getD k [])).take j) (outN ps k)
  have h2 := fold_length ((ps.take k).flatMap (decode 0)) []
  have h3 := flat_len (ps.take k) (fun p hp => hl p (List.mem_of_mem_take hp))
  have e : ps.getD k [] = ps[k] := by simp [List.getD, hk]
  have h4 : (decode 0 (ps.getD k [])).length ≤ 256 := by rw [decode_length, e]; exact hl _ (List.getElem_mem hk)
  rw [List.length_take] at h1 h3
  unfold outJ
  unfold outN outOf at h1 ⊢
  rw [List.length_nil, Nat.zero_add] at h2
  omega

theorem out_form {T : Nat} {w : World} {v : Value} {out : List Clu} (h : OutRow T w v out) : ∃ a cap, v = .slice a out.length cap ∧ ∀ p, p < out.length → ∃ g, a = some ⟨g, 0, none⟩ ∧ g < w.heap.size ∧ w.cell? ⟨g, p * 3, none⟩ = some (.int .i64 (out.getD p dClu).idx) ∧ w.cell? ⟨g, p * 3 + 1, none⟩ = some (.bool (out.getD p dClu).zeros) ∧ w.cell? ⟨g, p * 3 + 2, none⟩ = some (.int .u32 (out.getD p dClu).crc) := by
  have hw : w.ownsRow T 41 3 v out.length (cluCells out) := h
  obtain ⟨a, c, hv⟩ : ∃ a c, v = .slice a out.length c := by
    rcases hw.2 with ⟨h1, h2⟩ | ⟨g, c, cur, h1, _⟩
    · exact ⟨none, 0, by rw [h1, h2]⟩
    · exact ⟨_, c, h1⟩
  subst hv
  refine ⟨a, c, rfl, fun p hp => ?_⟩
  obtain ⟨gw, cw, hf, _, hlt⟩ := hw.form (by omega)
  simp only [Value.slice.injEq, true_and] at hf
  obtain ⟨rfl, rfl⟩ := hf
  have hat := cluCells_at out p hp
  have e : out.getD p dClu = out[p] := by simp [List.getD, hp]
  rw [e]
  refine ⟨gw, rfl, hlt, ?_, ?_, ?_⟩
  · rw [hw.cellAt (p * 3) (by omega)]; exact hat.1
  · rw [hw.cellAt (p * 3 + 1) (by omega)]; exact hat.2.1
  · rw [hw.cellAt (p * 3 + 2) (by omega)]; exact hat.2.2
end Go.Proofs.Ybulkbmoi
