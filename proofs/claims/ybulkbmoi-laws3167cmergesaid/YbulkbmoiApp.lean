/-
  The two appenders of encoding/binary, with what they write told block by block.
-/
import Derived.Test.YbulkbmoiProg
import Derived.Test.YbulkbmoiPlain
import Derived.WalkKit
import Derived.WalkSpells
import Derived.WalkLawsBesides
import Derived.Laws.CopyOwn
import Derived.Deep.AppendLies
import Derived.Deep.QuietTactic
import Derived.BigQuiet
import Derived.Deep.DeepFit
import Derived.Lib.Walk
import Derived.Lib.EndianBits
namespace Go.Proofs.Ybulkbmoi
open Go.RowKit Go

theorem info5 : (Yba.prog.info? 5).map (fun i => (i.zero, i.size, i.bytes)) = some (some (.int .u8 0), 1, 1) := by kernel_rfl
theorem info41 : (Yba.prog.info? 41).map (fun i => (i.zero, i.size, i.bytes)) = some (some (.agg #[.int .i64 0, .bool false, .int .u32 0]), 3, 16) := by kernel_rfl
theorem info56 : (Yba.prog.info? 56).map (fun i => (i.zero, i.size, i.bytes)) = some (some (.pointer none), 1, 8) := by kernel_rfl
theorem info31 : (Yba.prog.info? 31).map (fun i => (i.zero, i.size, i.bytes)) = some (some (.slice none 0 0), 1, 24) := by kernel_rfl
theorem info35 : (Yba.prog.info? 35).map (fun i => (i.zero, i.size, i.bytes)) = some (some (.pointer none), 1, 8) := by kernel_rfl
theorem info4 : (Yba.prog.info? 4).map (fun i => (i.zero, i.size, i.bytes)) = some (some (.bool false), 1, 1) := by kernel_rfl

/-- One step more of an owned row that may have moved. -/
theorem grown_on {w w1 w2 : World} {r r1 : Option Nat} (h : w.grownBy w1 r) (k : w1.grownBy w2 r1) (hr : r1 = r ∨ ∀ g, r1 = some g → w.heap.size ≤ g) : w.grownBy w2 r :=
  ⟨k.os.trans h.os, k.tape.trans h.tape, k.output.trans h.output, Nat.le_trans h.size k.size, fun i hi hne => by
    rw [k.block i (Nat.lt_of_lt_of_le hi h.size) (by
      rcases hr with rfl | hr
      · exact hne
      · intro e; have := hr i e.symm; omega)]
    exact h.block i hi hne⟩

theorem grown_refl (w : World) (r : Option Nat) : w.grownBy w r := ⟨rfl, rfl, rfl, Nat.le_refl _, fun _ _ _ => rfl⟩

theorem below_of_grown {B : Nat} {w w' : World} {r : Option Nat} (h : w.grownBy w' r) (hB : B ≤ w.heap.size) (hr : ∀ k, r = some k → B ≤ k) : Below B w w' :=
  ⟨h.os, h.tape, h.output, h.size, fun k hk => h.block k (by omega) (fun e => by have := hr k e.symm; omega)⟩

theorem one_cell (wr : World) (x : Value) (e : TypeId) : ∀ (j : Nat) (u : Value), [x][j]? = some u → (wr.alloc (.cells #[x] e)).cell? ((⟨wr.heap.size, 0, none⟩ : Addr).add j) = some u := by
  intro j u hj
  match j, hj with
  | 0, hj => simp at hj; subst hj; simp [Addr.add]

/-- What an append leaves: the row may have moved to a new block. -/
def Moved (w w' : World) (sv v' : Value) : Prop := w.grownBy w' sv.ownBlock ∧ ∀ g, v'.ownBlock = some g → sv.ownBlock = some g ∨ w.heap.size ≤ g

theorem Moved.trans {w w1 w2 : World} {a b c : Value} (h : Moved w w1 a b) (k : Moved w1 w2 b c) : Moved w w2 a c := by
  have hs := h.1.size
  refine ⟨grown_on h.1 k.1 ?_, ?_⟩
  · cases hb : b.ownBlock with
    | none => exact .inr (fun g e => by cases e)
    | some g =>
      rcases h.2 g hb with e | e
      · exact .inl e.symm
      · exact .inr (fun g' e' => by cases e'; exact e)
  · intro g hg
    rcases k.2 g hg with e | e
    · exact h.2 g e
    · exact .inr (by omega)

theorem moved_of {wr w1 : World} {o : Obj} {v : Value} {g n cap : Nat} (hg : (wr.alloc o).grownBy w1 v.ownBlock) (hat : v.ownBlock = some g ∨ g = wr.heap.size + 1) : Moved wr w1 v (.slice (some ⟨g, 0, none⟩) n cap) := by
  refine ⟨grown_on (World.grownBy_alloc wr o v.ownBlock) hg (.inl rfl), fun g' e => ?_⟩
  simp [Value.ownBlock] at e
  subst e
  rcases hat with h | h
  · exact .inl h
  · exact .inr (by omega)

theorem moved_of2 {wr w1 : World} {o o2 : Obj} {v : Value} {g n cap : Nat} (hg : ((wr.alloc o).alloc o2).grownBy w1 v.ownBlock) (hat : v.ownBlock = some g ∨ g = wr.heap.size + 1 + 1) : Moved wr w1 v (.slice (some ⟨g, 0, none⟩) n cap) := by
  refine ⟨grown_on (grown_on (World.grownBy_alloc wr o v.ownBlock) (World.grownBy_alloc _ o2 v.ownBlock) (.inl rfl)) hg (.inl rfl), fun g' e => ?_⟩
  simp [Value.ownBlock] at e
  subst e
  rcases hat with h | h
  · exact .inl h
  · exact .inr (by omega)

set_option maxHeartbeats 1000000 in
set_option maxRecDepth 100000 in
theorem appendUvarint (B n x : Nat) (hx : x < 18446744073709551616) (sv : Value) (xs : List Value) (w : World) (hown : w.ownsRow B 5 1 sv n xs) (hBw : B ≤ w.heap.size) (hlim : n + 10 ≤ 1000000) :
    Calls Yba.prog 10 #[sv, .int .u64 x] w fun e w' => ∃ v', e = .returned v' ∧ w'.ownsRow B 5 1 v' (n + (Lib.uvarint x).length) (xs ++ Lib.byteCells (Lib.uvarint x)) ∧ Moved w w' sv v' := by
  obtain ⟨i0, hi, hz0, hz1, hz2⟩ := info_parts info5
  have hlen := Lib.uvarint_length64 hx
  go_enter Yba.func10, Yba.ntmps10
  go_wp2
  go_loopw [0, 1] (fun vb vx wr => ∃ (y : Nat) (pre : List UInt8), vx = .int .u64 y ∧ y ≤ x ∧ Lib.uvarint x = pre ++ Lib.uvarint y ∧ wr.ownsRow B 5 1 vb (n + pre.length) (xs ++ Lib.byteCells pre) ∧ Moved w wr sv vb)
    (fun _ vx _ => (intOf vx).toNat)
  case atStart => exact ⟨x, [], rfl, Nat.le_refl _, rfl, by simpa [Lib.byteCells] using hown, grown_refl _ _, fun g h => .inl h⟩
  case round =>
    obtain ⟨y, pre, rfl, hy, hsplit, hown1, hnx⟩ := hrel
    have hsz := hnx.1.size
    have hpl : pre.length + (Lib.uvarint y).length ≤ 10 := by
      have h2 := congrArg List.length hsplit
      rw [List.length_append] at h2
      omega
    have hyp := Lib.uvarint_pos y
    by_cases h128 : 128 ≤ y
    · have hor : bits .or .u8 ((y : Int) % 256) 128 = ((y % 128 + 128 : Nat) : Int) := by
        rw [Lib.u8_or128_any _ (by omega) (by omega)]
        omega
      go_wp2_with (at_builtin; refine wpList_append_lies _ rfl _ _ 36 rfl B 5 i0 (.int .u8 0) 1 1 Yba.underlying36 hi hz0 hz1 hz2 rfl (by decide) _ _ _ rfl (hown1.alloc _) _ 1 1 [Value.int .u8 ((y : Int) % 128 + 128)] rfl rfl ?c1 ?c2 (by decide) ?c3 ?c4 ?c5 _ rfl ?_)
      case c1 => exact one_cell wr _ 5
      case c2 => intro u hu; simp at hu; subst hu; rfl
      case c3 => unfold maxLen; omega
      case c4 => omega
      case c5 => simp; omega
      intro g cap w1 hown' hgrow hat hlt
      have hm := hnx.trans (moved_of (n := n + pre.length + 1) (cap := cap) hgrow hat)
      clear hgrow hat hlt
      go_wp2
      go_roundw
      case rel =>
        refine ⟨y / 128, pre ++ [(y % 128 + 128).toUInt8], by go_num, by omega, by rw [hsplit, Lib.uvarint_big h128]; simp, ?_, hm⟩
        have ec : ((y % 128 + 128 : Nat) : Int) = (y : Int) % 128 + 128 := by omega
        rw [Lib.byteCells_snoc pre (by omega), List.length_append, List.length_singleton, ← Nat.add_assoc, ec]
        exact hown'
      case measure => simp [intOf]; omega
    · have hsm : Lib.uvarint y = [y.toUInt8] := Lib.uvarint_small (by omega)
      go_wp2_with (at_builtin; refine wpList_append_lies _ rfl _ _ 36 rfl B 5 i0 (.int .u8 0) 1 1 Yba.underlying36 hi hz0 hz1 hz2 rfl (by decide) _ _ _ rfl (hown1.alloc _) _ 1 1 [Value.int .u8 (y : Int)] rfl rfl ?c1 ?c2 (by decide) ?c3 ?c4 ?c5 _ rfl ?_)
      case c1 => exact one_cell wr _ 5
      case c2 => intro u hu; simp at hu; subst hu; rfl
      case c3 => unfold maxLen; omega
      case c4 => omega
      case c5 => simp; omega
      intro g cap w1 hown' hgrow hat hlt
      have hm := hnx.trans (moved_of (n := n + pre.length + 1) (cap := cap) hgrow hat)
      clear hgrow hat hlt
      go_wp2
      go_ret
      refine ⟨_, rfl, ?_, hm⟩
      rw [hsplit, hsm, Lib.byteCells_snoc pre (by omega), List.length_append, List.length_singleton, ← Nat.add_assoc]
      simpa using hown'

def be4 (v : Int) : List Int := [v / 16777216, v / 65536 % 256, v / 256 % 256, v % 256]

theorem be4_cells (v : Nat) (hv : v < 4294967296) : (be4 v).map (Value.int .u8) = Lib.byteCells (Lib.beBytes 4 v) := by
  simp only [Lib.beBytes, Lib.leBytes, Lib.byteCells, be4, List.reverse_cons, List.reverse_nil, List.nil_append, List.cons_append, List.map_cons, List.map_nil, Lib.toUInt8_mod]
  have e0 : ((v % 256 : Nat) : Int) = (v : Int) % 256 := by omega
  have e1 : ((v / 256 % 256 : Nat) : Int) = (v : Int) / 256 % 256 := by omega
  have e2 : ((v / 256 / 256 % 256 : Nat) : Int) = (v : Int) / 65536 % 256 := by omega
  have e3 : ((v / 256 / 256 / 256 % 256 : Nat) : Int) = (v : Int) / 16777216 := by omega
  rw [e0, e1, e2, e3]

set_option maxHeartbeats 1000000 in
set_option maxRecDepth 100000 in
theorem appendU32 (B n v : Nat) (hv : v < 4294967296) (sv : Value) (xs : List Value) (w : World) (hown : w.ownsRow B 5 1 sv n xs) (hBw : B ≤ w.heap.size) (hlim : n + 10 ≤ 1000000) :
    Calls Yba.prog 11 #[.agg #[], sv, .int .u32 v] w fun e w' => ∃ v', e = .returned v' ∧ w'.ownsRow B 5 1 v' (n + 4) (xs ++ Lib.byteCells (Lib.beBytes 4 v)) ∧ Moved w w' sv v' := by
  obtain ⟨i0, hi, hz0, hz1, hz2⟩ := info_parts info5
  go_enter Yba.func11, Yba.ntmps11
  go_wp2_with (at_builtin; refine wpList_append_lies _ rfl _ _ 36 rfl B 5 i0 (.int .u8 0) 1 1 Yba.underlying36 hi hz0 hz1 hz2 rfl (by decide) _ _ _ rfl ((hown.alloc _).alloc _) _ 4 4 ((be4 v).map (.int .u8)) rfl rfl ?c1 ?c2 (by decide) ?c3 ?c4 ?c5 _ rfl ?_)
  case c1 =>
    intro j u hj
    unfold be4 at hj
    match j, hj with
    | 0, hj => simp at hj; subst hj; simp [Addr.add]
    | 1, hj => simp at hj; subst hj; simp [Addr.add]
    | 2, hj => simp at hj; subst hj; simp [Addr.add]
    | 3, hj => simp at hj; subst hj; simp [Addr.add]
  case c2 => exact ints_oneCell _ _
  case c3 => unfold maxLen; omega
  case c4 => omega
  case c5 => simp; omega
  intro g cap w2 hown' hgrow hat hlt
  have hm := moved_of2 (n := n + 4) (cap := cap) hgrow hat
  clear hgrow hat hlt
  go_wp2
  go_ret
  refine ⟨_, rfl, ?_, hm⟩
  rw [be4_cells v hv] at hown'
  exact hown'
end Go.Proofs.Ybulkbmoi
