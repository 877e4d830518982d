/-
  The plain law: draining the merger gives the sorted list in which the first point wins.
-/
import Derived.Test.YbulkbmoiMnext
namespace Go.Proofs.Ybulkbmoi
open Go.RowKit Go

def ins : List Clu → Clu → List Clu
  | [], c => [c]
  | x :: xs, c => if x.idx < c.idx then x :: ins xs c else if x.idx = c.idx then x :: xs else c :: x :: xs

def outOf (L : List Clu) : List Clu := L.foldl ins []
def look (l : List Clu) (x : Nat) : Option Clu := l.find? (fun c => c.idx == x)
def Srt (l : List Clu) : Prop := l.Pairwise (fun a b => a.idx < b.idx)

theorem look_cons (y : Clu) (ys : List Clu) (x : Nat) : look (y :: ys) x = if y.idx = x then some y else look ys x := by
  unfold look
  rw [List.find?_cons]
  by_cases h : y.idx = x
  · simp [h]
  · have : (y.idx == x) = false := by simpa using h
    simp [h, this]

theorem look_none (l : List Clu) (x : Nat) (h : ∀ c ∈ l, c.idx ≠ x) : look l x = none := by
  induction l with
  | nil => rfl
  | cons y ys ih =>
    rw [look_cons, if_neg (h y (by simp))]
    exact ih (fun c hc => h c (by simp [hc]))

theorem look_some_mem (l : List Clu) (x : Nat) (c : Clu) (h : look l x = some c) : c ∈ l ∧ c.idx = x := by
  induction l with
  | nil => cases h
  | cons y ys ih =>
    rw [look_cons] at h
    split at h
    · cases h; exact ⟨by simp, by assumption⟩
    · have := ih h; exact ⟨by simp [this.1], this.2⟩

theorem look_append (a b : List Clu) (x : Nat) : look (a ++ b) x = (look a x).or (look b x) := by
  induction a with
  | nil => simp [look]
  | cons y ys ih =>
    rw [List.cons_append, look_cons, look_cons]
    split
    · rfl
    · exact ih

theorem ins_mem (l : List Clu) (c y : Clu) (h : y ∈ ins l c) : y = c ∨ y ∈ l := by
  induction l with
  | nil => simp [ins] at h; exact .inl h
  | cons x xs ih =>
    unfold ins at h
    split at h
    · simp at h
      rcases h with h | h
      · right; simp [h]
      · rcases ih h with h | h
        · exact .inl h
        · right; simp [h]
    · split at h
      · exact .inr h
      · simp at h
        rcases h with h | h
        · exact .inl h
        · right; simpa using h

theorem ins_srt (l : List Clu) (c : Clu) (h : Srt l) : Srt (ins l c) := by
  induction l with
  | nil => simp [ins, Srt]
  | cons x xs ih =>
    unfold Srt at h ih ⊢
    rw [List.pairwise_cons] at h
    unfold ins
    split
    · rw [List.pairwise_cons]
      refine ⟨fun y hy => ?_, ih h.2⟩
      rcases ins_mem xs c y hy with rfl | hy
      · assumption
      · exact h.1 y hy
    · split
      · rw [List.pairwise_cons]; exact h
      · rw [List.pairwise_cons]
        refine ⟨fun y hy => ?_, List.pairwise_cons.2 h⟩
        simp at hy
        rcases hy with rfl | hy
        · omega
        · have := h.1 y hy; omega

theorem ins_look (l : List Clu) (c : Clu) (x : Nat) (h : Srt l) : look (ins l c) x = (look l x).or (look [c] x) := by
  induction l with
  | nil => simp [ins, look]
  | cons y ys ih =>
    unfold Srt at h ih
    rw [List.pairwise_cons] at h
    unfold ins
    split
    · rw [look_cons, look_cons, ih h.2]
      split
      · rfl
      · rfl
    · split
      · rename_i h1 h2
        rw [look_cons, look_cons (ys := [])]
        by_cases e : y.idx = x
        · simp [e]
        · have : c.idx ≠ x := by omega
          simp [e, this, look]
      · rename_i h1 h2
        by_cases e : c.idx = x
        · rw [look_none (y :: ys) x (fun d hd => by
            simp at hd
            rcases hd with rfl | hd
            · omega
            · have := h.1 d hd; omega), look_cons, if_pos e, look_cons, if_pos e]
          rfl
        · rw [look_cons, if_neg e, look_cons (y := c), if_neg e]
          simp [look]

theorem fold_look (L : List Clu) : ∀ (acc : List Clu), Srt acc → Srt (L.foldl ins acc) ∧ ∀ x, look (L.foldl ins acc) x = (look acc x).or (look L x) := by
  induction L with
  | nil => intro acc h; exact ⟨h, fun x => by simp [look]⟩
  | cons c L ih =>
    intro acc h
    obtain ⟨h1, h2⟩ := ih (ins acc c) (ins_srt acc c h)
    refine ⟨h1, fun x => ?_⟩
    rw [List.foldl_cons, h2, ins_look acc c x h]
    have e : look (c :: L) x = (look [c] x).or (look L x) := look_append [c] L x
    rw [e]
    cases look acc x <;> rfl

theorem out_srt (L : List Clu) : Srt (outOf L) := (fold_look L [] (by simp [Srt])).1
theorem out_look (L : List Clu) (x : Nat) : look (outOf L) x = look L x := by
  have := (fold_look L [] (by simp [Srt])).2 x
  unfold outOf
  rw [this]
  simp [look]

theorem srt_unique : ∀ (a b : List Clu), Srt a → Srt b → (∀ x, look a x = look b x) → a = b := by
  intro a
  induction a with
  | nil =>
    intro b _ _ h
    cases b with
    | nil => rfl
    | cons y ys =>
      have := h y.idx
      rw [look_cons, if_pos rfl] at this
      simp [look] at this
  | cons x xs ih =>
    intro b ha hb h
    cases b with
    | nil =>
      have := h x.idx
      rw [look_cons, if_pos rfl] at this
      simp [look] at this
    | cons y ys =>
      unfold Srt at ha hb
      rw [List.pairwise_cons] at ha hb
      have h1 := h x.idx
      have h2 := h y.idx
      rw [look_cons, if_pos rfl] at h1
      rw [look_cons (y := y), if_pos rfl] at h2
      have e : x.idx = y.idx := by
        have m1 := (look_some_mem _ _ _ h1.symm).1
        have m2 := (look_some_mem _ _ _ h2).1
        simp at m1 m2
        rcases m1 with m1 | m1
        · rw [m1]
        · rcases m2 with m2 | m2
          · rw [m2]
          · have := hb.1 x m1
            have := ha.1 y m2
            omega
      have exy : x = y := by
        rw [look_cons, if_pos e.symm] at h1
        exact Option.some.inj h1
      subst exy
      congr 1
      refine ih ys ha.2 hb.2 fun z => ?_
      by_cases ez : x.idx = z
      · subst ez
        rw [look_none xs _ (fun c hc => by have := ha.1 c hc; omega), look_none ys _ (fun c hc => by have := hb.1 c hc; omega)]
      · have := h z
        rw [look_cons, look_cons, if_neg ez, if_neg ez] at this
        exact this

def but (ix : Nat) (L : List Clu) : List Clu := L.filter (fun c => c.idx != ix)

theorem look_but (ix x : Nat) (L : List Clu) (h : ix ≠ x) : look (but ix L) x = look L x := by
  induction L with
  | nil => rfl
  | cons c L ih =>
    unfold but at ih ⊢
    rw [List.filter_cons]
    by_cases e : c.idx = ix
    · have : ¬ (c.idx = x) := by omega
      simp only [e, bne_self_eq_false, Bool.false_eq_true, if_false]
      rw [look_cons, if_neg (by omega)]
      exact ih
    · have : (c.idx != ix) = true := by simpa using e
      rw [this, if_pos rfl, look_cons, look_cons, ih]

theorem out_step (L : List Clu) (h : Clu) (hmin : ∀ c ∈ L, h.idx ≤ c.idx) (hl : look L h.idx = some h) : outOf L = h :: outOf (but h.idx L) := by
  refine srt_unique _ _ (out_srt L) ?_ fun x => ?_
  · unfold Srt
    rw [List.pairwise_cons]
    refine ⟨fun y hy => ?_, out_srt _⟩
    have hs := out_srt (but h.idx L)
    have hm : ∃ z, look (but h.idx L) y.idx = some z := by
      rw [← out_look]
      cases hlk : look (outOf (but h.idx L)) y.idx with
      | none =>
        exfalso
        have := List.find?_eq_none.1 hlk y hy
        simp at this
      | some z => exact ⟨z, rfl⟩
    obtain ⟨z, hz⟩ := hm
    obtain ⟨z1, z2⟩ := look_some_mem _ _ _ hz
    unfold but at z1
    rw [List.mem_filter] at z1
    have := hmin z z1.1
    have h3 : z.idx ≠ h.idx := by simpa using z1.2
    omega
  · rw [out_look, look_cons]
    by_cases e : h.idx = x
    · subst e; rw [if_pos rfl]; exact hl
    · rw [if_neg e, out_look, look_but _ _ _ e]

/-! The states. -/
def rem (st : St) : List Clu := if st.live = true then st.head :: decode st.nxt st.rest else []
def remAll (ss : List St) : List Clu := ss.flatMap rem
def Good (st : St) : Prop := st.live = true → st.head.idx < st.nxt

theorem decode_ge (es : List Ent) : ∀ (nxt : Nat) (c : Clu), c ∈ decode nxt es → nxt ≤ c.idx := by
  induction es with
  | nil => intro nxt c h; simp [decode] at h
  | cons e es ih =>
    intro nxt c h
    simp only [decode, List.mem_cons] at h
    rcases h with rfl | h
    · show nxt ≤ nxt + e.gap; omega
    · have := ih _ c h; omega

theorem rem_advance (nxt : Nat) (es : List Ent) : rem (advance nxt es) = decode nxt es := by
  cases es with
  | nil => simp [rem, advance, decode]
  | cons e es => simp [rem, advance, decode, headC, nextN]

theorem good_advance (nxt : Nat) (es : List Ent) : Good (advance nxt es) := by
  cases es with
  | nil => intro h; simp [advance] at h
  | cons e es => intro _; simp [advance, headC, decode, nextN]

theorem good_step (ix : Nat) (st : St) (h : Good st) : Good (stepSt ix st) := by
  unfold stepSt
  split
  · exact good_advance _ _
  · exact h

theorem rem_step (ix : Nat) (st : St) (hg : Good st) (hm : ∀ c ∈ rem st, ix ≤ c.idx) : rem (stepSt ix st) = but ix (rem st) := by
  by_cases hl : st.live = true
  · have e : rem st = st.head :: decode st.nxt st.rest := by unfold rem; rw [if_pos hl]
    have h1 := hg hl
    have h2 : ∀ c ∈ decode st.nxt st.rest, (c.idx != ix) = true := fun c hc => by
      have h3 := decode_ge _ _ _ hc
      have h4 := hm st.head (by rw [e]; simp)
      simp
      omega
    have h5 : but ix (decode st.nxt st.rest) = decode st.nxt st.rest := List.filter_eq_self.2 h2
    by_cases hi : st.head.idx = ix
    · unfold stepSt
      rw [if_pos ⟨hl, hi⟩, rem_advance, e]
      unfold but at h5 ⊢
      rw [List.filter_cons]
      simp [hi, h5]
    · unfold stepSt
      rw [if_neg (by simp [hi]), e]
      unfold but at h5 ⊢
      rw [List.filter_cons, h5]
      simp [hi]
  · unfold stepSt
    rw [if_neg (by simp [hl])]
    unfold rem
    rw [if_neg hl]
    rfl

theorem rem_all_step (ix : Nat) (ss : List St) (hg : ∀ st ∈ ss, Good st) (hm : ∀ c ∈ remAll ss, ix ≤ c.idx) : remAll (ss.map (stepSt ix)) = but ix (remAll ss) := by
  induction ss with
  | nil => rfl
  | cons st ss ih =>
    unfold remAll at hm ih ⊢
    rw [List.map_cons, List.flatMap_cons, List.flatMap_cons, rem_step ix st (hg st (by simp)) (fun c hc => hm c (by simp [hc])), ih (fun s hs => hg s (by simp [hs])) (fun c hc => hm c (by rw [List.flatMap_cons]; simp only [List.mem_append]; exact .inr hc))]
    unfold but
    rw [List.filter_append]

theorem rem_head (st : St) (hg : Good st) (c : Clu) (h : c ∈ rem st) : st.live = true ∧ st.head.idx ≤ c.idx := by
  unfold rem at h
  split at h
  · rename_i hl
    refine ⟨hl, ?_⟩
    simp at h
    rcases h with rfl | h
    · omega
    · have := decode_ge _ _ _ h
      have := hg hl
      omega
  · simp at h

theorem at_spec (ss : List St) (k : Nat) : match atN ss k with
    | none => ∀ j, j < k → liveAt ss j = false
    | some a => a < k ∧ liveAt ss a = true ∧ (∀ j, j < k → liveAt ss j = true → idxAt ss a ≤ idxAt ss j) ∧ ∀ j, j < a → liveAt ss j = true → idxAt ss a < idxAt ss j := by
  induction k with
  | zero => intro j hj; omega
  | succ k ih =>
    unfold atN
    cases hat : atN ss k with
    | none =>
      rw [hat] at ih
      dsimp only at ih ⊢
      by_cases hl : liveAt ss k = true
      · rw [if_pos hl]
        refine ⟨by omega, hl, fun j hj hj2 => ?_, fun j hj hj2 => ?_⟩
        · by_cases e : j = k
          · subst e; omega
          · rw [ih j (by omega)] at hj2; cases hj2
        · rw [ih j hj] at hj2; cases hj2
      · rw [if_neg hl]
        intro j hj
        by_cases e : j = k
        · subst e; simpa using hl
        · exact ih j (by omega)
    | some a =>
      rw [hat] at ih
      dsimp only at ih ⊢
      obtain ⟨i1, i2, i3, i4⟩ := ih
      by_cases hc : liveAt ss k = true ∧ idxAt ss k < idxAt ss a
      · rw [if_pos hc]
        refine ⟨by omega, hc.1, fun j hj hj2 => ?_, fun j hj hj2 => ?_⟩
        · by_cases e : j = k
          · subst e; omega
          · have := i3 j (by omega) hj2; omega
        · have := i3 j hj hj2; omega
      · rw [if_neg hc]
        refine ⟨by omega, i2, fun j hj hj2 => ?_, i4⟩
        by_cases e : j = k
        · subst e
          rcases Nat.lt_or_ge (idxAt ss j) (idxAt ss a) with h | h
          · exact absurd ⟨hj2, h⟩ hc
          · exact h
        · exact i3 j (by omega) hj2

theorem mem_remAll (ss : List St) (hg : ∀ st ∈ ss, Good st) (c : Clu) (h : c ∈ remAll ss) : ∃ j, j < ss.length ∧ liveAt ss j = true ∧ idxAt ss j ≤ c.idx := by
  unfold remAll at h
  rw [List.mem_flatMap] at h
  obtain ⟨st, h1, h2⟩ := h
  obtain ⟨h3, h4⟩ := rem_head st (hg st h1) c h2
  obtain ⟨j, hj, rfl⟩ := List.getElem_of_mem h1
  have e : ss.getD j dSt = ss[j] := by simp [List.getD, hj]
  refine ⟨j, hj, ?_, ?_⟩
  · unfold liveAt; rw [e]; exact h3
  · unfold idxAt; rw [e]; exact h4

theorem drain_none (ss : List St) (hg : ∀ st ∈ ss, Good st) (h : atN ss ss.length = none) : outOf (remAll ss) = [] := by
  have hs := at_spec ss ss.length
  rw [h] at hs
  dsimp only at hs
  have : remAll ss = [] := by
    cases hr : remAll ss with
    | nil => rfl
    | cons c l =>
      obtain ⟨j, hj, h1, _⟩ := mem_remAll ss hg c (by rw [hr]; simp)
      rw [hs j hj] at h1
      cases h1
  rw [this]
  rfl

theorem drain_some (ss : List St) (hg : ∀ st ∈ ss, Good st) (a : Nat) (h : atN ss ss.length = some a) :
    outOf (remAll ss) = (ss.getD a dSt).head :: outOf (remAll (ss.map (stepSt (idxAt ss a)))) ∧ ∀ st ∈ ss.map (stepSt (idxAt ss a)), Good st := by
  have hs := at_spec ss ss.length
  rw [h] at hs
  dsimp only at hs
  obtain ⟨i1, i2, i3, i4⟩ := hs
  have hmin : ∀ c ∈ remAll ss, idxAt ss a ≤ c.idx := fun c hc => by
    obtain ⟨j, hj, h1, h2⟩ := mem_remAll ss hg c hc
    have := i3 j hj h1
    omega
  refine ⟨?_, fun st hst => ?_⟩
  · rw [rem_all_step _ ss hg hmin]
    refine out_step (remAll ss) (ss.getD a dSt).head hmin ?_
    have e : ss.getD a dSt = ss[a] := by simp [List.getD, i1]
    have hsplit : ss = ss.take a ++ ss[a] :: ss.drop (a + 1) := by
      rw [← List.drop_eq_getElem_cons i1, List.take_append_drop]
    have hL : remAll ss = remAll (ss.take a) ++ (rem ss[a] ++ remAll (ss.drop (a + 1))) := by
      conv => lhs; rw [hsplit]
      unfold remAll
      rw [List.flatMap_append, List.flatMap_cons]
    rw [hL, look_append, look_none (remAll (ss.take a)) _ (fun c hc => ?_)]
    · have hlive : ss[a].live = true := by rw [← e]; exact i2
      have hr : rem ss[a] = ss[a].head :: decode ss[a].nxt ss[a].rest := by unfold rem; rw [if_pos hlive]
      rw [hr, List.cons_append, look_cons, e, if_pos rfl]
      rfl
    · obtain ⟨j, hj, h1, h2⟩ := mem_remAll (ss.take a) (fun st hst => hg st (List.mem_of_mem_take hst)) c hc
      rw [List.length_take] at hj
      have ej : (ss.take a).getD j dSt = ss.getD j dSt := by
        simp only [List.getD]
        rw [List.getElem?_take, if_pos (by omega)]
      unfold liveAt at h1
      unfold idxAt at h2
      rw [ej] at h1 h2
      have h5 := i4 j (by omega) h1
      unfold idxAt at h5
      omega
  · rw [List.mem_map] at hst
    obtain ⟨s, h1, rfl⟩ := hst
    exact good_step _ _ (hg s h1)

theorem rem_start (ps : List (List Ent)) : remAll (ps.map (advance 0)) = ps.flatMap (decode 0) := by
  unfold remAll
  rw [List.flatMap_map]
  congr 1
  funext p
  exact rem_advance 0 p

/-! Where the insertion goes. -/
def dClu : Clu := ⟨0, false, 0⟩
def posOf : List Clu → Nat → Nat
  | [], _ => 0
  | y :: ys, x => if y.idx < x then posOf ys x + 1 else 0

theorem posOf_le (l : List Clu) (x : Nat) : posOf l x ≤ l.length := by
  induction l with
  | nil => simp [posOf]
  | cons y ys ih => unfold posOf; split <;> simp <;> omega

theorem posOf_lt (l : List Clu) (x : Nat) : ∀ p, p < posOf l x → (l.getD p dClu).idx < x := by
  induction l with
  | nil => intro p h; simp [posOf] at h
  | cons y ys ih =>
    intro p h
    unfold posOf at h
    split at h
    · cases p with
      | zero => simpa [List.getD]
      | succ p => have := ih p (by omega); simpa [List.getD] using this
    · omega

theorem posOf_stop (l : List Clu) (x : Nat) : posOf l x < l.length → ¬ (l.getD (posOf l x) dClu).idx < x := by
  induction l with
  | nil => intro h; simp [posOf] at h
  | cons y ys ih =>
    intro h
    unfold posOf at h ⊢
    split
    · rename_i hy
      rw [if_pos hy] at h
      have := ih (by simpa using h)
      simpa [List.getD] using this
    · rename_i hy
      simpa [List.getD] using hy

theorem ins_found (l : List Clu) (c : Clu) : posOf l c.idx < l.length → (l.getD (posOf l c.idx) dClu).idx = c.idx → ins l c = l := by
  induction l with
  | nil => intro h; simp [posOf] at h
  | cons y ys ih =>
    intro h1 h2
    unfold posOf at h1 h2
    unfold ins
    by_cases hy : y.idx < c.idx
    · rw [if_pos hy] at h1 h2
      rw [if_pos hy, ih (by simpa using h1) (by simpa [List.getD] using h2)]
    · rw [if_neg hy] at h1 h2
      rw [if_neg hy, if_pos (by simpa [List.getD] using h2)]

theorem ins_new (l : List Clu) (c : Clu) : ¬ (posOf l c.idx < l.length ∧ (l.getD (posOf l c.idx) dClu).idx = c.idx) → ins l c = l.take (posOf l c.idx) ++ [c] ++ l.drop (posOf l c.idx) := by
  induction l with
  | nil => intro _; simp [ins, posOf]
  | cons y ys ih =>
    intro h
    unfold posOf at h ⊢
    unfold ins
    by_cases hy : y.idx < c.idx
    · rw [if_pos hy] at h ⊢
      rw [if_pos hy, ih (fun hh => h ⟨by simpa using hh.1, by simpa [List.getD] using hh.2⟩)]
      simp
    · rw [if_neg hy] at h ⊢
      rw [if_neg hy]
      have hne : ¬ (y.idx = c.idx) := fun e => h ⟨by simp, by simpa [List.getD] using e⟩
      rw [if_neg hne]
      simp

theorem cluCells_append (a b : List Clu) : cluCells (a ++ b) = cluCells a ++ cluCells b := by unfold cluCells; simp

theorem cluCells_ins (l : List Clu) (c : Clu) (p : Nat) (hp : p ≤ l.length) : cluCells (l.take p ++ [c] ++ l.drop p) = (cluCells l).take (p * 3) ++ cluCell c ++ (cluCells l).drop (p * 3) := by
  have e : cluCells l = cluCells (l.take p) ++ cluCells (l.drop p) := by rw [← cluCells_append, List.take_append_drop]
  have hlen : (cluCells (l.take p)).length = p * 3 := by rw [cluCells_length, List.length_take]; congr 1; omega
  rw [cluCells_append, cluCells_append, e, ← hlen, List.take_left, List.drop_left]
  simp [cluCells]

theorem ins_length (l : List Clu) (c : Clu) : (ins l c).length ≤ l.length + 1 := by
  induction l with
  | nil => simp [ins]
  | cons x xs ih =>
    unfold ins
    split
    · simp; exact ih
    · split <;> simp

theorem fold_length (L : List Clu) : ∀ (acc : List Clu), (L.foldl ins acc).length ≤ acc.length + L.length := by
  induction L with
  | nil => intro acc; simp
  | cons c L ih =>
    intro acc
    have := ih (ins acc c)
    have := ins_length acc c
    simp
    omega

theorem cluCells_one (l : List Clu) : ∀ u ∈ cluCells l, u.oneCell' = true := by
  intro u hu
  unfold cluCells at hu
  rw [List.mem_flatMap] at hu
  obtain ⟨c, _, hc⟩ := hu
  simp [cluCell] at hc
  rcases hc with rfl | rfl | rfl <;> rfl
end Go.Proofs.Ybulkbmoi
