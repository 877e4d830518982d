import Derived.Test.YbulkbmngClone
import Derived.Lib.Endian
import Derived.Lib.EndianBits
import Derived.Lib.Walk
namespace Go.Proofs.Ybulkbmng
open Go.RowKit Go

theorem grown_trans {w w1 w2 : World} {r : Option Nat} (h : w.grownBy w1 r) (k : w1.grownBy w2 r) : w.grownBy w2 r :=
  ⟨k.os.trans h.os, k.tape.trans h.tape, k.output.trans h.output, Nat.le_trans h.size k.size, fun i hi hr => (k.block i (Nat.lt_of_lt_of_le hi h.size) hr).trans (h.block i hi hr)⟩

/-- The eight bytes of v, the least first, as the walk spells them. -/
def le8 (v : Int) : List Int := [v % 256, v / 256 % 256, v / 65536 % 256, v / 16777216 % 256, v / 4294967296 % 256, v / 1099511627776 % 256, v / 281474976710656 % 256, v / 72057594037927936]

set_option maxHeartbeats 1000000 in
set_option maxRecDepth 100000 in
theorem appendU64 (B n : Nat) (v : Int) (h0 : 0 ≤ v) (hv : v < 18446744073709551616) (sv : Value) (xs : List Value) (w : World) (hown : w.ownsRow B 5 1 sv n xs) (hBw : B ≤ w.heap.size) (hlim : n + 8 ≤ 1000000) :
    Calls Yba.prog 13 #[.agg #[], sv, .int .u64 v] w fun e w' => ∃ g cap, e = .returned (.slice (some ⟨g, 0, none⟩) (n + 8) cap) ∧ w'.ownsRow B 5 1 (.slice (some ⟨g, 0, none⟩) (n + 8) cap) (n + 8) (xs ++ (le8 v).map (.int .u8)) ∧ w.grownBy w' sv.ownBlock ∧ (sv.ownBlock = some g ∨ w.heap.size ≤ g) := by
  obtain ⟨i0, hi, hz0, hz1, hz2⟩ := info_parts info5
  go_enter Yba.func13, Yba.ntmps13
  go_wp2_with (at_builtin; refine wpList_append_lies _ rfl _ _ 22 rfl B 5 i0 (.int .u8 0) 1 1 Yba.underlying22 hi hz0 hz1 hz2 rfl (by decide) _ _ _ rfl ((hown.alloc _).alloc _) _ 8 8 ((le8 v).map (.int .u8)) rfl rfl ?c1 ?c2 (by decide) ?c3 ?c4 ?c5 _ rfl ?_)
  case c1 =>
    intro j u hj
    unfold le8 at hj
    match j, hj with
    | 0, hj => simp at hj; subst hj; simp [Addr.add]
    | 1, hj => simp at hj; subst hj; simp [Addr.add]
    | 2, hj => simp at hj; subst hj; simp [Addr.add]
    | 3, hj => simp at hj; subst hj; simp [Addr.add]
    | 4, hj => simp at hj; subst hj; simp [Addr.add]
    | 5, hj => simp at hj; subst hj; simp [Addr.add]
    | 6, hj => simp at hj; subst hj; simp [Addr.add]
    | 7, hj => simp at hj; subst hj; simp [Addr.add]
  case c2 => exact ints_oneCell _ _
  case c3 => unfold maxLen; omega
  case c4 => omega
  case c5 => simp; omega
  intro g cap w2 hown' hgrow hat hlt
  go_wp2
  go_ret
  refine ⟨g, cap, rfl, hown', grown_trans (grown_trans (World.grownBy_alloc _ _ _) (World.grownBy_alloc _ _ _)) hgrow, by rcases hat with h | h; exact Or.inl h; exact Or.inr (by omega)⟩

def flat (zs : List Int) : List Int := zs.flatMap (fun z => le8 (IntKind.u64.wrap z))

theorem flat_snoc (ys : List Int) (k : Nat) (h : k < ys.length) : flat (ys.take (k + 1)) = flat (ys.take k) ++ le8 (IntKind.u64.wrap (ys.getD k 0)) := by
  unfold flat
  rw [List.take_succ_eq_append_getElem h, List.flatMap_append]
  simp [List.getD, h]

theorem u64_bd (z : Int) : 0 ≤ IntKind.u64.wrap z ∧ IntKind.u64.wrap z < 18446744073709551616 := by
  rw [IntKind.wrap_u64]; omega

theorem rel_step {B n k g cap g' wc m : Nat} {u0 : Value} {xs : List Value} {ys : List Int} {w wr w2 : World} (hBw : B ≤ w.heap.size) (hk : k < m)
    (hownr : wr.ownsRow B 5 1 u0 (n + 8 * k) (xs ++ (flat (ys.take k)).map (.int .u8))) (hvr : wr.ownsRow B 2 1 (.slice (some ⟨g, 0, none⟩) m wc) m (ys.map (.int .i64))) (hner : u0.ownBlock ≠ some g) (hbr : Below B w wr)
    (hown' : w2.ownsRow B 5 1 (.slice (some ⟨g', 0, none⟩) (n + 8 * k + 8) cap) (n + 8 * k + 8) (xs ++ (flat (ys.take k)).map (.int .u8) ++ (le8 (IntKind.u64.wrap (ys.getD k 0))).map (.int .u8)))
    (hg : wr.grownBy w2 u0.ownBlock) (hat : u0.ownBlock = some g' ∨ wr.heap.size ≤ g') :
    w2.ownsRow B 5 1 (.slice (some ⟨g', 0, none⟩) (n + 8 * k + 8) cap) (n + 8 * (k + 1)) (xs ++ (flat (ys.take (k + 1))).map (.int .u8)) ∧ w2.ownsRow B 2 1 (.slice (some ⟨g, 0, none⟩) m wc) m (ys.map (.int .i64)) ∧ (Value.slice (some ⟨g', 0, none⟩) (n + 8 * k + 8) cap).ownBlock ≠ some g ∧ Below B w w2 := by
  have hl : ys.length = m := by have := hvr.1; simpa using this
  have hgl := (hvr.lt g rfl).2
  refine ⟨?_, hvr.kept hg (.inr (fun e => hner e.symm)), ?_, hbr.grown hg (by have := hbr.size; omega) (fun k hk => (hownr.lt k hk).1)⟩
  · rw [flat_snoc ys k (by omega), List.map_append, ← List.append_assoc]
    exact hown'
  · intro e
    simp [Value.ownBlock] at e
    rcases hat with h | h
    · exact hner (by rw [h, e])
    · omega


theorem ownsRow_cell {w : World} {B : Nat} {e : TypeId} {g n cap : Nat} {k : IntKind} {ys : List Int} (h : w.ownsRow B e 1 (.slice (some ⟨g, 0, none⟩) n cap) n (ys.map (.int k))) (j : Nat) (hj : j < n) :
    w.cell? ⟨g, j, none⟩ = some (.int k (ys.getD j 0)) := by
  have hl : ys.length = n := by have := h.1; simpa using this
  have hjl : j < ys.length := by omega
  rw [h.cellAt j (by omega)]
  simp [List.getD, hjl]

set_option maxHeartbeats 1000000 in
set_option maxRecDepth 100000 in
theorem appendNums (B n m g wc : Nat) (sv : Value) (xs : List Value) (ys : List Int) (w : World) (hown : w.ownsRow B 5 1 sv n xs) (hBw : B ≤ w.heap.size) (hn : n ≤ 1024) (hm : m ≤ 1024)
    (hv : w.ownsRow B 2 1 (.slice (some ⟨g, 0, none⟩) m wc) m (ys.map (.int .i64))) (hne : sv.ownBlock ≠ some g) :
    Calls Yba.prog 9 #[sv, .slice (some ⟨g, 0, none⟩) m wc] w fun e w' => ∃ v', e = .returned v' ∧ w'.ownsRow B 5 1 v' (n + 8 * m) (xs ++ (flat ys).map (.int .u8)) ∧ w'.ownsRow B 2 1 (.slice (some ⟨g, 0, none⟩) m wc) m (ys.map (.int .i64)) ∧ Below B w w' := by
  have hgl := (hv.lt g rfl).2
  go_enter Yba.func9, Yba.ntmps9
  go_wp2
  go_loopw [0, 9] (fun b i wr => ∃ k : Nat, k ≤ m ∧ i = .int .i64 k ∧ wr.ownsRow B 5 1 b (n + 8 * k) (xs ++ (flat (ys.take k)).map (.int .u8)) ∧ wr.ownsRow B 2 1 (.slice (some ⟨g, 0, none⟩) m wc) m (ys.map (.int .i64)) ∧ b.ownBlock ≠ some g ∧ Below B w wr)
    (fun _ i _ => m - (intOf i).toNat)
  case atStart => exact ⟨0, Nat.zero_le _, rfl, by simpa [flat] using hown, hv, hne, Below.refl _ _⟩
  case round =>
    obtain ⟨k, hk, rfl, hownr, hvr, hner, hbr⟩ := hrel
    by_cases hlt : k < m
    · have hcx := ownsRow_cell hvr k hlt
      have hub := u64_bd (ys.getD k 0)
      go_wp2_with (go_at_call 13; refine (appendU64 B (n + 8 * k) _ hub.1 hub.2 u0 _ wr hownr (by have := hbr.size; omega) (by omega)).mono ?_; rintro e w2 ⟨g', cap, rfl, hown', hg, hat⟩)
      have R := rel_step hBw hlt hownr hvr hner hbr hown' hg hat
      clear hown' hg hat hownr hvr hner hcx
      go_roundw
      case rel => exact ⟨k + 1, by omega, by go_num, R⟩
      case measure => simp [intOf]; omega
    · go_wp2
      go_ret
      obtain rfl : k = m := by omega
      have hl : ys.length = k := by have := hv.1; simpa using this
      rw [List.take_of_length_le (by omega)] at hownr
      exact ⟨_, rfl, hownr, hvr, hbr⟩
end Go.Proofs.Ybulkbmng
