import Derived.Test.YbulkbmoiFmtBack
import Derived.OpenShut
import Derived.Deep.Light
namespace Go.Proofs.YbulkbmoiFmt
open Go.RowKit Go Go.Extern.Stop Go.Stop Go.Extern Go.Kit

theorem info31 : (Ybaf.prog.info? 31).map (fun i => (i.zero, i.size, i.bytes)) = some (some (.agg #[.int .i64 0, .int .u64 0, .int .i64 0, .pointer none, .bool false]), 5, 40) := by kernel_rfl

/-- The base mark of point j: bases are laid round and round; none where there is no base. -/
def baseAt (bs : Nat → Bool) (lb : Nat) (j : Nat) : Bool := if lb = 0 then false else bs (j % lb)

/-- The points' row behind k rounds. -/
def Pts (w : World) (g L : Nat) (zs : List Int) (bs : Nat → Bool) (lb k : Nat) : Prop :=
  ∃ cur, w.heap[g]? = some (.cells cur 31 (0, 0)) ∧ cur.size = L * 5 ∧ (∀ j, j < k → cur[j * 5]? = some (.int .i64 (zs.getD j 0))) ∧ (∀ j, j < L → cur[j * 5 + 4]? = some (.bool (if j < k then baseAt bs lb j else false)))

theorem made_at (z : Array Value) (n j : Nat) (hj : j < n) : (madeCells z n)[j]? = some z[j % z.size]! := by
  simp [madeCells, hj]

theorem pts_start (w : World) (L : Nat) (zs : List Int) (bs : Nat → Bool) (lb : Nat) : Pts (w.alloc (.cells (madeCells (Value.agg #[.int .i64 0, .int .u64 0, .int .i64 0, .pointer none, .bool false]).cells (L * 5)) 31)) w.heap.size L zs bs lb 0 := by
  refine ⟨_, heap_alloc_new w _, size_madeCells _ _, fun j hj => by omega, fun j hj => ?_⟩
  rw [made_at _ _ _ (by omega), if_neg (by omega)]
  have e : (Value.agg #[.int .i64 0, .int .u64 0, .int .i64 0, .pointer none, .bool false]).cells = #[.int .i64 0, .int .u64 0, .int .i64 0, .pointer none, .bool false] := rfl
  rw [e]
  have e2 : (j * 5 + 4) % 5 = 4 := by omega
  show some (#[Value.int .i64 0, .int .u64 0, .int .i64 0, .pointer none, .bool false][(j * 5 + 4) % 5]!) = _
  rw [e2]
  rfl

theorem pts_cells {w : World} {g L : Nat} {zs : List Int} {bs : Nat → Bool} {lb k : Nat} (h : Pts w g L zs bs lb k) : (∀ j, j < L → ∃ v, w.cell? ⟨g, j * 5, none⟩ = some v) ∧ (∀ j, j < k → w.cell? ⟨g, j * 5, none⟩ = some (.int .i64 (zs.getD j 0))) ∧
    (∀ j, j < L → w.cell? ⟨g, j * 5 + 4, none⟩ = some (.bool (if j < k then baseAt bs lb j else false))) ∧ (∀ j, w.frozen? ⟨g, j, none⟩ = false) := by
  obtain ⟨cur, hg, hs, h1, h2⟩ := h
  refine ⟨fun j hj => ?_, fun j hj => ?_, fun j hj => ?_, fun j => frozen_of_row w g j cur 31 hg⟩
  · rw [cell_of_row w g _ cur 31 (0, 0) hg]
    exact ⟨cur[j * 5], by rw [Array.getElem?_eq_getElem (by omega)]⟩
  · rw [cell_of_row w g _ cur 31 (0, 0) hg]; exact h1 j hj
  · rw [cell_of_row w g _ cur 31 (0, 0) hg]; exact h2 j hj

theorem pts_step0 {w : World} {g L : Nat} {zs : List Int} {bs : Nat → Bool} {lb k : Nat} (h : Pts w g L zs bs lb k) (hk : k < L) (hlb : lb = 0) : Pts (w.setCell ⟨g, k * 5, none⟩ (.int .i64 (zs.getD k 0))) g L zs bs lb (k + 1) := by
  obtain ⟨cur, hg, hs, h1, h2⟩ := h
  refine ⟨_, heap_setCell_same w g _ cur 31 _ hg, by simpa using hs, fun j hj => ?_, fun j hj => ?_⟩
  · rw [Array.getElem?_setIfInBounds]
    by_cases e : j = k
    · subst e; rw [if_pos rfl, if_pos (by omega)]
    · rw [if_neg (by omega)]; exact h1 j (by omega)
  · rw [Array.getElem?_setIfInBounds, if_neg (by omega), h2 j hj]
    have : baseAt bs lb j = false := by unfold baseAt; rw [if_pos hlb]
    rw [this]
    split <;> split <;> rfl

theorem pts_step1 {w : World} {g L : Nat} {zs : List Int} {bs : Nat → Bool} {lb k : Nat} (h : Pts w g L zs bs lb k) (hk : k < L) (hlb : 0 < lb) : Pts ((w.setCell ⟨g, k * 5, none⟩ (.int .i64 (zs.getD k 0))).setCell ⟨g, k * 5 + 4, none⟩ (.bool (bs (k % lb)))) g L zs bs lb (k + 1) := by
  obtain ⟨cur, hg, hs, h1, h2⟩ := h
  refine ⟨_, heap_setCell_same _ g _ _ 31 _ (heap_setCell_same w g _ cur 31 _ hg), by simpa using hs, fun j hj => ?_, fun j hj => ?_⟩
  · rw [Array.getElem?_setIfInBounds, if_neg (by omega), Array.getElem?_setIfInBounds]
    by_cases e : j = k
    · subst e; rw [if_pos rfl, if_pos (by omega)]
    · rw [if_neg (by omega)]; exact h1 j (by omega)
  · rw [Array.getElem?_setIfInBounds]
    by_cases e : j = k
    · subst e
      rw [if_pos rfl, if_pos (by simp; omega), if_pos (by omega)]
      unfold baseAt
      rw [if_neg (by omega)]
    · rw [if_neg (by omega), Array.getElem?_setIfInBounds, if_neg (by omega), h2 j hj]
      by_cases e2 : j < k
      · rw [if_pos e2, if_pos (by omega)]
      · rw [if_neg e2, if_neg (by omega)]

theorem pos_of (at0 : Int) (k : Nat) (hk : k ≤ 1024) : ∃ p : Nat, wrap64 (at0 % ((k : Int) + 1)) = (p : Int) ∧ p ≤ k := by
  have h1 := Int.emod_nonneg at0 (b := (k : Int) + 1) (by omega)
  have h2 := Int.emod_lt_of_pos at0 (b := (k : Int) + 1) (by omega)
  refine ⟨(at0 % ((k : Int) + 1)).toNat, ?_, by omega⟩
  rw [IntWalk.wrap64_in _ ⟨by omega, by omega⟩]
  omega

theorem text_size {T : ByteArray} {n : Int} (h : T.data.toList = FmtText.zeros 8 n) (hw : (Lit.int .i64 n).wf = true) : 1 ≤ T.size ∧ T.size ≤ 100 := by
  have l1 := FmtText.zeros_length_le' 8 hw
  have e : T.size = (FmtText.zeros 8 n).length := by rw [← h, Array.length_toList]; rfl
  refine ⟨?_, by omega⟩
  rw [e]
  unfold FmtText.zeros
  split
  · simp
  · have : 1 ≤ (Lib.decDigits n.toNat).length := by rw [Lib.decDigits]; split <;> simp
    simp
    omega

theorem str_eq {T : ByteArray} {m : Nat} (h : T.data.toList = FmtText.zeros 8 (m : Int)) : strOf (padded m) = T := by
  have h1 := strOf_data (padded m)
  rw [padded_zeros, ← h] at h1
  cases hs : strOf (padded m)
  cases T
  rw [hs] at h1
  simpa using h1

theorem suffix_app (T S : ByteArray) (w : World) (hs : T.size + S.size ≤ 1000) :
    Calls Ybaf.prog 5 #[.string (T ++ S), .string S] w fun e w' => e = .returned (.bool true) ∧ w = w' := by
  refine (suffix_any (T ++ S) S w (by rw [ByteArray.size_append]; omega) (by rw [ByteArray.size_append]; omega)).mono ?_
  rintro e w' ⟨rfl, rfl⟩
  refine ⟨?_, rfl⟩
  have e : (T ++ S).extract ((T ++ S).size - S.size) (T ++ S).size = S := by
    rw [ByteArray.size_append, Nat.add_sub_cancel, ByteArray.extract_append_eq_right rfl rfl]
  rw [e]
  simp

theorem ret_bool {b : Bool} (h : b = true) : Ending.returned (.bool b) = .returned (.bool true) := by rw [h]

set_option maxHeartbeats 1000000 in
theorem law_walk (F : Interp) (a0 : Option Addr) (len0 cap0 : Nat) (zs : List Int) (a1 : Option Addr) (len1 cap1 : Nat) (bs : Nat → Bool) (at0 : Int) (w : World) (hF : F.answers w.tape)
    (h0 : 0 < len0 → ∃ b off, a0 = some ⟨b, off, none⟩ ∧ ∀ j, j < len0 → w.cell? ⟨b, off + j, none⟩ = some (.int .i64 (zs.getD j 0)))
    (h1 : 0 < len1 → ∃ b off, a1 = some ⟨b, off, none⟩ ∧ ∀ j, j < len1 → w.cell? ⟨b, off + j, none⟩ = some (.bool (bs j)))
    (hwf : ∀ j, j < len0 → (Lit.int .i64 (zs.getD j 0)).wf = true) (hT : ∀ n, (Lit.int .i64 n).wf = true → (FmtStop.textOf (F "fmt.Sprintf" (reading n) 0)).data.toList = FmtText.zeros 8 n) (hm1 : len1 ≤ 9223372036854775807) (ha0 : 0 ≤ at0) (ha1 : at0 < 18446744073709551616) (hl0 : len0 ≤ 1024) :
    Calls Ybaf.prog 3 #[.slice a0 len0 cap0, .slice a1 len1 cap1, .int .u64 at0] w fun e w' => e = .returned (.bool true) ∧ Below w.heap.size w w' := by
  obtain ⟨i0, hi, hz0, hz1, hz2⟩ := info_parts info31
  have hmk := run_make (P := Ybaf.prog) w 25 31 i0 _ Ybaf.underlying25 hi hz0 .i64 .i64 (len0 : Int) (len0 : Int) (by omega) (by omega) (by rw [hz2]; omega) (by omega)
  rw [hz1, Int.toNat_natCast] at hmk
  have hp0 := pts_start w len0 zs bs len1
  have hb0 := (Below.refl w.heap.size w).alloc (Nat.le_refl _) (.cells (madeCells (Value.agg #[.int .i64 0, .int .u64 0, .int .i64 0, .pointer none, .bool false]).cells (len0 * 5)) 31)
  generalize madeCells (Value.agg #[.int .i64 0, .int .u64 0, .int .i64 0, .pointer none, .bool false]).cells (len0 * 5) = C at hmk hp0 hb0
  go_enter Ybaf.func3, Ybaf.ntmps3
  go_wp2_with fail
  generalize w.alloc (.cells C 31) = W1 at hp0 hb0 ⊢
  clear hmk
  have hc0 : ∀ (wx : World), Below w.heap.size w wx → ∀ b o v, w.cell? ⟨b, o, none⟩ = some v → wx.cell? ⟨b, o, none⟩ = some v ∧ b < w.heap.size := by
    intro wx hb b o v hc
    have := World.block_lt_of_cell? w _ hc
    exact ⟨by rw [hb.cell this]; exact hc, this⟩
  have HC := hc0
  generalize hG : w.heap.size = G at *
  go_loopw [23] (fun i wr => ∃ k : Nat, k ≤ len0 ∧ i = .int .i64 k ∧ Pts wr G len0 zs bs len1 k ∧ Below G w wr) (fun i _ => len0 - (intOf i).toNat)
  case atStart => exact ⟨0, Nat.zero_le _, rfl, hp0, hb0⟩
  case round =>
    obtain ⟨k, hk, rfl, hp, hb⟩ := hrel
    clear hp0 hb0
    by_cases hlt : k < len0
    · obtain ⟨b, off, rfl, hcell⟩ := h0 (by omega)
      obtain ⟨c1, c1'⟩ := hc0 wr hb _ _ _ (hcell k hlt)
      obtain ⟨q1, q2, q3, q4⟩ := pts_cells hp
      obtain ⟨v1, d1⟩ := q1 k hlt
      have d2 := q3 k hlt
      have d3 := q4 (k * 5)
      have d4 := q4 (k * 5 + 4)
      rw [if_neg (by omega)] at d2
      by_cases hz : len1 = 0
      · have R := pts_step0 hp hlt hz
        have R2 := hb.setCell (p := ⟨G, k * 5, none⟩) (Nat.le_refl _) (.int .i64 (zs.getD k 0))
        subst hz
        clear hp hb q1 q2 q3 q4 hcell h0 h1 hc0 HC hwf
        go_wp2_with fail
        go_roundw
        case rel => exact ⟨k + 1, by omega, by go_num, R, R2⟩
        case measure => simp [intOf]; omega
      · obtain ⟨b1, off1, rfl, hcell1⟩ := h1 (by omega)
        have hmod : k % len1 < len1 := Nat.mod_lt _ (by omega)
        obtain ⟨e1, e1'⟩ := hc0 wr hb _ _ _ (hcell1 (k % len1) hmod)
        have R := pts_step1 hp hlt (by omega)
        have R2 := (hb.setCell (p := ⟨G, k * 5, none⟩) (Nat.le_refl _) (.int .i64 (zs.getD k 0))).setCell (p := ⟨G, k * 5 + 4, none⟩) (Nat.le_refl _) (.bool (bs (k % len1)))
        clear hp hb q1 q2 q3 q4 hcell h0 h1 hc0 HC hwf hcell1
        go_wp2_with fail
        go_roundw
        case rel => exact ⟨k + 1, by omega, by go_num, R, R2⟩
        case measure => simp [intOf]; omega
    · obtain rfl : k = len0 := by omega
      go_wp2_with fail
      obtain ⟨p, hpe, hpk⟩ := pos_of at0 k (by omega)
      rw [hpe]
      clear hpe
      obtain ⟨q1, q2, q3, q4⟩ := pts_cells hp
      have r1 : (wr.alloc (.cells #[.int .i64 0, .slice (some ⟨G, 0, none⟩) k k] 34)).cell? ⟨wr.heap.size, 1, none⟩ = some (.slice (some ⟨G, 0, none⟩) k k) := by go_simp
      have r2 : ∀ a v, wr.cell? a = some v → (wr.alloc (.cells #[.int .i64 0, .slice (some ⟨G, 0, none⟩) k k] 34)).cell? a = some v := fun a v h => Lib.cell?_alloc_some _ h
      have r3 : Below G w (wr.alloc (.cells #[.int .i64 0, .slice (some ⟨G, 0, none⟩) k k] 34)) := hb.alloc (by have := hb.size; omega) _
      generalize wr.alloc (.cells #[.int .i64 0, .slice (some ⟨G, 0, none⟩) k k] 34) = W2 at r1 r2 r3 ⊢
      generalize wr.heap.size = R at r1 ⊢
      have hG2 : G ≤ W2.heap.size := by have := r3.size; omega
      by_cases hp0 : p = 0
      · subst hp0
        clear q1 q2 q3 q4 r1 r2
        refine (back_zero _ W2).mono ?_
        rintro e w3 ⟨rfl, rfl⟩
        go_wp2_with fail
        go_ret
        exact ⟨rfl, by rw [hG]; exact r3⟩
      · by_cases hba : p < k ∧ baseAt bs len1 p = true
        · obtain ⟨hpk', hba⟩ := hba
          have d1 := r2 _ _ (q3 p hpk')
          rw [if_pos hpk', hba] at d1
          refine (back_base R G k k p W2 r1 hpk' (by omega) d1).mono ?_
          rintro e w3 ⟨rfl, rfl⟩
          clear q1 q2 q3 q4 r1 r2
          go_wp2_with fail
          go_ret
          exact ⟨rfl, by rw [hG]; exact r3⟩
        · have d1 : p < k → W2.cell? ⟨G, p * 5 + 4, none⟩ = some (.bool false) := by
            intro hpk'
            have h := r2 _ _ (q3 p hpk')
            rw [if_pos hpk'] at h
            have e : baseAt bs len1 p = false := by
              cases hx : baseAt bs len1 p
              · rfl
              · exact absurd ⟨hpk', hx⟩ hba
            rw [e] at h
            exact h
          have d2 := r2 _ _ (q2 (p - 1) (by omega))
          have hwn := hwf (p - 1) (by omega)
          have ht := hT _ hwn
          obtain ⟨T, hTT⟩ : ∃ T, FmtStop.textOf (F "fmt.Sprintf" (reading (zs.getD (p - 1) 0)) 0) = T := ⟨_, rfl⟩
          rw [hTT] at ht
          obtain ⟨hT1, hT2⟩ := text_size ht hwn
          obtain ⟨b, off, rfl, hcell⟩ := h0 (by omega)
          have d3 := hcell (p - 1) (by omega)
          have d4 := World.block_lt_of_cell? w _ d3
          have hF2 : F.answers W2.tape := by rw [r3.tape]; exact hF
          refine (back_name F R G k k p W2 hF2 _ T hTT (by omega) r1 hpk (by omega) hl0 d1 d2).mono ?_
          rintro e w3 ⟨rfl, hb3⟩
          have d5 : w3.cell? ⟨b, off + (p - 1), none⟩ = some (.int .i64 (zs.getD (p - 1) 0)) := by
            rw [hb3.cell (by have : b < G := by rw [← hG]; exact d4
                             exact Nat.lt_of_lt_of_le this hG2), r3.cell (by rw [← hG]; exact d4)]
            exact d3
          have d6 : ∀ hpk' : p < k, w3.cell? ⟨G, p * 5 + 4, none⟩ = some (.bool false) := by
            intro hpk'
            have h := d1 hpk'
            rw [hb3.cell (World.block_lt_of_cell? W2 _ h)]
            exact h
          have hb4 : Below G w w3 := r3.trans (hb3.mono hG2)
          generalize hN : zs.getD (p - 1) 0 = N at *
          clear q1 q2 q3 q4 r1 r2 d1 d2 d3 hcell hba hTT h0 h1 hc0 HC hp hb hwf hT hb3
          have hsz : (T ++ (⟨#[46, 113, 99, 111, 119, 50]⟩ : ByteArray)).size = T.size + 6 := by rw [ByteArray.size_append]; rfl
          have hfin : ∀ wx, Below w3.heap.size w3 wx → Below w.heap.size w wx := by
            intro wx h
            rw [hG]
            exact hb4.trans (h.mono (by have := hb4.size; omega))
          have hfin' := hfin w3 (Below.refl _ _)
          by_cases hneg : N < 0
          · by_cases hpk2 : p < k
            · have d7 := d6 hpk2
              clear d6
              go_wp2_with fail
              refine (suffix_app T _ w3 (by rw [show (⟨#[46, 113, 99, 111, 119, 50]⟩ : ByteArray).size = 6 from rfl]; omega)).mono ?_
              rintro e w4 ⟨rfl, rfl⟩
              go_wp2_with fail
              go_ret
              exact ⟨ret_bool (decide_eq_true (by omega)), hfin'⟩
            · clear d6
              go_wp2_with fail
              refine (suffix_app T _ w3 (by rw [show (⟨#[46, 113, 99, 111, 119, 50]⟩ : ByteArray).size = 6 from rfl]; omega)).mono ?_
              rintro e w4 ⟨rfl, rfl⟩
              go_wp2_with fail
              go_ret
              exact ⟨ret_bool (decide_eq_true (by omega)), hfin'⟩
          · obtain ⟨m, rfl⟩ : ∃ m : Nat, N = m := ⟨N.toNat, by omega⟩
            have hmm : m ≤ 9223372036854775807 := by have := bounds_i64 hwn; omega
            have hst : strOf (padded m) = T := str_eq ht
            by_cases hpk2 : p < k
            · have d7 := d6 hpk2
              clear d6
              go_wp2_with fail
              refine (pad_any m hmm w3).mono ?_
              rintro e w4 ⟨rfl, hb5⟩
              rw [hst]
              go_wp2_with fail
              go_ret
              exact ⟨by go_simp, hfin _ hb5⟩
            · clear d6
              go_wp2_with fail
              refine (pad_any m hmm w3).mono ?_
              rintro e w4 ⟨rfl, hb5⟩
              rw [hst]
              go_wp2_with fail
              go_ret
              exact ⟨by go_simp, hfin _ hb5⟩
end Go.Proofs.YbulkbmoiFmt
