/-
  slices.Values, Collect, Sorted; strings.Join and the law's own join.
-/
import Derived.Test.YbulkbmowDoorSeq
import Derived.Test.YbulkbmowDoorLw
namespace Go.Proofs.YbulkbmowDoor
open Go.RowKit Go

theorem values_any (a : Option Addr) (len cap : Nat) (w : World) :
    Calls Ybad.prog 26 #[.slice a len cap] w fun e w' => e = .returned (.func (.func 46) #[] #[.pointer (some ⟨w.heap.size, 0, none⟩)]) ∧ w' = w.alloc (.cells #[.slice a len cap] 51) := by
  go_enter Ybad.func26, Ybad.ntmps26
  go_wp2_with fail
  go_ret
  exact ⟨rfl, rfl⟩

theorem collect_any (Bs : Nat) (sv : Value) (zs : List ByteArray) (hlen : zs.length ≤ 1000) (w : World) (hBs : Bs < w.heap.size) (hc0 : w.cell? ⟨Bs, 0, none⟩ = some sv) (hL : Strs w.heap.size w sv zs) :
    Calls Ybad.prog 45 #[.func (.func 46) #[] #[.pointer (some ⟨Bs, 0, none⟩)]] w fun e W' => ∃ v, e = .returned v ∧ W'.ownsRow w.heap.size 9 1 v zs.length (zs.map Value.string) ∧ Below w.heap.size w W' := by
  have HA : Hid (Calls Ybad.prog 57 _ w _) := (callsIn_wide (n := 3)).1 (appendSeq_in Fence.wide 3 trivial trivial rfl (by omega) Bs sv zs hlen w hBs hc0 hL)
  go_enter Ybad.func45, Ybad.ntmps45
  go_wp2_with fail
  refine HA.out.mono ?_
  rintro e w1 ⟨v, rfl, h1, h2⟩
  go_wp2_with fail
  go_ret
  exact ⟨v, rfl, h1, h2⟩

theorem sorted_any (Bs : Nat) (sv : Value) (zs : List ByteArray) (hlen : zs.length ≤ 1000) (w : World) (hBs : Bs < w.heap.size) (hc0 : w.cell? ⟨Bs, 0, none⟩ = some sv) (hL : Strs w.heap.size w sv zs) :
    Calls Ybad.prog 25 #[.func (.func 46) #[] #[.pointer (some ⟨Bs, 0, none⟩)]] w fun e W' => ∃ v, e = .returned v ∧ Scope W' v (sortB zs) ∧ (∃ a c, v = .slice a zs.length c ∧ zs.length ≤ c) ∧ Below w.heap.size w W' := by
  have HA : Hid (Calls Ybad.prog 45 _ w _) := collect_any Bs sv zs hlen w hBs hc0 hL
  go_enter Ybad.func25, Ybad.ntmps25
  go_wp2_with fail
  refine HA.out.mono ?_
  rintro e w1 ⟨v, rfl, h1, h2⟩
  clear HA
  go_wp2_with fail
  refine (sort_any w1 v zs (strs_row h1) hlen).mono ?_
  rintro e w2 ⟨rfl, hsc, row, hrow, hrl, hg⟩
  have hb : Below w.heap.size w w2 := h2.grown hg h2.size (fun k hk => by
    obtain ⟨n', c', he⟩ := hrl k hk
    exact (h1.lt k (by rw [he]; rfl)).1)
  go_wp2_with fail
  go_ret
  refine ⟨v, rfl, hsc, ?_, hb⟩
  rcases h1.2 with ⟨rfl, hn⟩ | ⟨g, cap, cur, rfl, _, _, hcap, _⟩
  · exact ⟨none, 0, by rw [hn], by omega⟩
  · exact ⟨_, cap, rfl, hcap⟩

/-- Texts joined by semicolons. -/
def joinB (xs : List ByteArray) : ByteArray := ⟨(Lib.join (xs.map (·.data.toList)) [59]).toArray⟩

theorem ba_append (a b : List UInt8) : (⟨(a ++ b).toArray⟩ : ByteArray) = ⟨a.toArray⟩ ++ ⟨b.toArray⟩ := by
  apply ByteArray.ext
  simp

theorem joinB_nil : joinB [] = ByteArray.empty := rfl
theorem joinB_one (x : ByteArray) : joinB [x] = x := by
  unfold joinB
  rw [List.map_cons, List.map_nil, Lib.join_one]
theorem joinB_snoc (y : ByteArray) (l : List ByteArray) (x : ByteArray) : joinB (y :: l ++ [x]) = joinB (y :: l) ++ ⟨#[59]⟩ ++ x := by
  unfold joinB
  have e : Lib.join ((y :: l ++ [x]).map (·.data.toList)) [59] = Lib.join ((y :: l).map (·.data.toList)) [59] ++ ([59] ++ x.data.toList) := by
    rw [List.map_append, List.map_cons, List.cons_append, Lib.join_cons, Lib.join_cons]
    simp [Lib.joinTail]
  rw [e, ba_append, ba_append, ByteArray.append_assoc]

theorem joinB_take (l : List ByteArray) (j : Nat) (h : j < l.length) : joinB (l.take (j + 1)) = (if 0 < j then joinB (l.take j) ++ ⟨#[59]⟩ else joinB (l.take j)) ++ l[j] := by
  rw [List.take_succ_eq_append_getElem h]
  cases hl : l.take j with
  | nil =>
    have hj : ¬ 0 < j := by
      intro hj
      have h0 : (l.take j).length = 0 := by rw [hl]; rfl
      rw [List.length_take] at h0
      omega
    rw [if_neg hj, List.nil_append, joinB_one, joinB_nil]
    simp
  | cons y r =>
    have hj : 0 < j := by
      by_cases hj : 0 < j
      · exact hj
      · have : j = 0 := by omega
        subst this
        simp at hl
    rw [if_pos hj, joinB_snoc]

theorem joinB_size (l : List ByteArray) (m : Nat) (h : ∀ a ∈ l, a.size ≤ m) : ∀ n, (joinB (l.take n)).size ≤ n * (m + 1) := by
  intro n
  induction n with
  | zero => simp [joinB_nil]
  | succ n ih =>
    by_cases hl : n < l.length
    · rw [joinB_take l n hl, Nat.add_mul]
      have := h _ (List.getElem_mem hl)
      have hs : (⟨#[59]⟩ : ByteArray).size = 1 := rfl
      split
      · rw [ByteArray.size_append, ByteArray.size_append]; omega
      · rw [ByteArray.size_append]; omega
    · rw [List.take_of_length_le (by omega), Nat.add_mul]
      rw [List.take_of_length_le (by omega)] at ih
      omega

theorem joinB_size_all (l : List ByteArray) (m : Nat) (h : ∀ a ∈ l, a.size ≤ m) : (joinB l).size ≤ l.length * (m + 1) := by
  have := joinB_size l m h l.length
  rwa [List.take_length] at this

theorem join_any (sv : Value) (ss : List ByteArray) (w : World) (h : Scope w sv ss) (hl : ss.length ≤ 1000) (hz : ∀ a ∈ ss, a.size ≤ 4000000) (hcp : ∃ a c, sv = .slice a ss.length c ∧ ss.length ≤ c) :
    Calls Ybad.prog 24 #[sv, .string ⟨#[59]⟩] w fun e w' => e = .returned (.string (joinB ss)) ∧ Below w.heap.size w w' := by
  have hsz := joinB_size_all ss 4000000 hz
  obtain ⟨a, c, rfl, h2⟩ := h
  by_cases hp : 0 < ss.length
  · obtain ⟨g, cur, rfl, h4, h5⟩ := h2 hp
    obtain ⟨a', c', he, hc⟩ := hcp
    simp only [Value.slice.injEq, true_and] at he
    obtain ⟨_, rfl⟩ := he
    exact Ybad.strings_Join g 0 c ss ⟨#[59]⟩ w (fun j x hj => by
      obtain ⟨hj', rfl⟩ := List.getElem?_eq_some_iff.1 hj
      rw [Nat.zero_add]
      exact cell_row h4 (h5 j hj')) (Array.getElem?_eq_some_iff.1 h4).1 (by omega) hc (by
      have e : (Lib.join (ss.map (·.data.toList)) (⟨#[59]⟩ : ByteArray).data.toList).length = (joinB ss).size := by
        show _ = (Lib.join (ss.map (·.data.toList)) [59]).toArray.size
        simp
      rw [e]
      have : ss.length * (4000000 + 1) ≤ 1000 * 4000001 := Nat.mul_le_mul hl (Nat.le_refl _)
      omega)
  · have e : ss = [] := List.eq_nil_of_length_eq_zero (by omega)
    subst e
    refine (Ybad.strings_Join_none a c ⟨#[59]⟩ w).mono ?_
    rintro e w' ⟨rfl, rfl⟩
    exact ⟨rfl, Below.refl _ _⟩

set_option maxRecDepth 100000 in
set_option maxHeartbeats 1000000 in
/-- The law's own join. -/
theorem zzjoin_any (sv : Value) (ss : List ByteArray) (w : World) (h : Scope w sv ss) (hl : ss.length ≤ 1000) (hz : ∀ a ∈ ss, a.size ≤ 4000000) :
    Calls Ybad.prog 12 #[sv] w fun e w' => e = .returned (.string (joinB ss)) ∧ w' = w := by
  have HZ : Hid (∀ n, (joinB (ss.take n)).size ≤ n * (4000000 + 1)) := joinB_size ss 4000000 hz
  obtain ⟨a, c, rfl, h2⟩ := h
  have HR : Hid (0 < ss.length → _) := h2
  clear h2
  have hs59 : (⟨#[59]⟩ : ByteArray).size = 1 := rfl
  go_enter Ybad.func12, Ybad.ntmps12
  go_wp2_with fail
  go_loopw [3, 8] (fun tx x wr => ∃ j : Nat, j ≤ ss.length ∧ x = .int .i64 j ∧ tx = .string (joinB (ss.take j)) ∧ wr = w) (fun _ x _ => ss.length - (intOf x).toNat)
  case atStart => exact ⟨0, Nat.zero_le _, rfl, rfl, rfl⟩
  case round =>
    obtain ⟨j, hj, rfl, rfl, rfl⟩ := hrel
    have hjz := HZ.out j
    have hjz2 : (joinB (ss.take j)).size ≤ 4000001000 := by omega
    by_cases hlt : j < ss.length
    · obtain ⟨g, cur, rfl, hgr, hcur⟩ := HR.out (by omega)
      have cj := cell_row (j := j) hgr (hcur j hlt)
      have haz := hz _ (List.getElem_mem hlt)
      have HT : Hid (joinB (ss.take (j + 1)) = (if 0 < j then joinB (ss.take j) ++ ⟨#[59]⟩ else joinB (ss.take j)) ++ ss[j]) := joinB_take ss j hlt
      clear hgr hcur hjz
      generalize ss[j] = sj at *
      generalize joinB (ss.take j) = jt at *
      by_cases h0 : 0 < j
      · have h0' : (0 : Int) < (j : Int) := by omega
        have hsz2 : (jt ++ ⟨#[59]⟩).size ≤ 4000001001 := by rw [ByteArray.size_append]; omega
        go_wp2_with fail
        go_roundw
        case rel => exact ⟨j + 1, by omega, by go_num, by rw [HT.out, if_pos h0], by first | trivial | rfl⟩
        case measure => simp [intOf]; omega
      · have h0' : ¬ (0 : Int) < (j : Int) := by omega
        go_wp2_with fail
        go_roundw
        case rel => exact ⟨j + 1, by omega, by go_num, by rw [HT.out, if_neg h0], by first | trivial | rfl⟩
        case measure => simp [intOf]; omega
    · obtain rfl : j = ss.length := by omega
      rw [List.take_length]
      go_wp2_with fail
      go_ret
      exact ⟨rfl, rfl⟩
end Go.Proofs.YbulkbmowDoor
