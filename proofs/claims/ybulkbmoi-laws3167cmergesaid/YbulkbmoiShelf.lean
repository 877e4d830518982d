/-
  THE SHELF's CONTRACTS OF encoding/binary.Uvarint AND (bigEndian).Uint32 AT THIS DUMP, in plain words (written by the guide's lay-plain.mjs).
-/
import Derived.Shelf.Bin.BEUint32
import Derived.Shelf.Bin.Uvarint
import Derived.Test.YbulkbmoiProg
namespace Go.Proofs
open Go.Shelf
def Yba.laysBin39_ren : Go.Shelf.Ren := ⟨fun | 39 => 18 | n => n, fun | 37 => 54 | 22 => 36 | 29 => 39 | 0 => 0 | 5 => 5 | 45 => 51 | n => n, fun | n => n⟩
theorem Yba.laysBin39 : Go.Proofs.LaysBin.n39 Yba.prog Yba.laysBin39_ren := {
  mixed := by kernel_rfl
  f39 := Yba.func18.trans (congrArg some (by kernel_rfl))
  t0 := Yba.underlying0
  a0 := Yba.isAgg0
  z0 := Yba.sizeOf0
  v0 := Yba.zeroValue0
  i0 := by kernel_rfl
  t5 := Yba.underlying5
  a5 := Yba.isAgg5
  z5 := Yba.sizeOf5
  v5 := Yba.zeroValue5
  i5 := by kernel_rfl
  t22 := Yba.underlying36
  a22 := Yba.isAgg36
  z22 := Yba.sizeOf36
  v22 := Yba.zeroValue36
  i22 := by kernel_rfl
  t29 := Yba.underlying39
  a29 := Yba.isAgg39
  z29 := Yba.sizeOf39
  v29 := Yba.zeroValue39
  i29 := by kernel_rfl
  t37 := Yba.underlying54
  a37 := Yba.isAgg54
  z37 := Yba.sizeOf54
  v37 := Yba.zeroValue54
  i37 := by kernel_rfl
  t45 := Yba.underlying51
  a45 := Yba.isAgg51
  z45 := Yba.sizeOf51
  v45 := Yba.zeroValue51
  i45 := by kernel_rfl }
open Go.RowKit in
/-- binary.BigEndian.Uint32: "Uint32 returns the uint32 representation of b[0:4].": THE NUMBER THAT THE FIRST 4 BYTES SPELL, the greatest byte first ('Lib.beNat'). Of what was there nothing has turned (the receiver, an empty struct, is laid in a new block without cells; the statement's order is drawn). (LAID: no walk: one application.) -/
theorem Yba.binary_BE_Uint32 (g o n c : Nat) (b0 b1 b2 b3 : UInt8) (w : World) (hn : 4 ≤ n) (c0 : w.cell? ⟨g, o, none⟩ = some (.int .u8 b0.toNat)) (c1 : w.cell? ⟨g, o + 1, none⟩ = some (.int .u8 b1.toNat)) (c2 : w.cell? ⟨g, o + 2, none⟩ = some (.int .u8 b2.toNat)) (c3 : w.cell? ⟨g, o + 3, none⟩ = some (.int .u8 b3.toNat)) :
    Calls Yba.prog 18 #[.agg #[], .slice (some ⟨g, o, none⟩) n c] w fun e w' => e = .returned (.int .u32 (Lib.beNat [b0, b1, b2, b3])) ∧ Below w.heap.size w w' := Any.binary_BE_Uint32 Yba.laysBin39 g o n c b0 b1 b2 b3 w hn c0 c1 c2 c3
def Yba.laysBin45_ren : Go.Shelf.Ren := ⟨fun | 45 => 17 | n => n, fun | 22 => 36 | 33 => 50 | 3 => 3 | 45 => 51 | 0 => 0 | 5 => 5 | 4 => 4 | n => n, fun | n => n⟩
theorem Yba.laysBin45 : Go.Proofs.LaysBin.n45 Yba.prog Yba.laysBin45_ren := {
  mixed := by kernel_rfl
  f45 := Yba.func17.trans (congrArg some (by kernel_rfl))
  t0 := Yba.underlying0
  a0 := Yba.isAgg0
  z0 := Yba.sizeOf0
  v0 := Yba.zeroValue0
  i0 := by kernel_rfl
  t3 := Yba.underlying3
  a3 := Yba.isAgg3
  z3 := Yba.sizeOf3
  v3 := Yba.zeroValue3
  i3 := by kernel_rfl
  t4 := Yba.underlying4
  a4 := Yba.isAgg4
  z4 := Yba.sizeOf4
  v4 := Yba.zeroValue4
  i4 := by kernel_rfl
  t5 := Yba.underlying5
  a5 := Yba.isAgg5
  z5 := Yba.sizeOf5
  v5 := Yba.zeroValue5
  i5 := by kernel_rfl
  t22 := Yba.underlying36
  a22 := Yba.isAgg36
  z22 := Yba.sizeOf36
  v22 := Yba.zeroValue36
  i22 := by kernel_rfl
  t33 := Yba.underlying50
  a33 := Yba.isAgg50
  z33 := Yba.sizeOf50
  v33 := Yba.zeroValue50
  i33 := by kernel_rfl
  t45 := Yba.underlying51
  a45 := Yba.isAgg51
  z45 := Yba.sizeOf51
  v45 := Yba.zeroValue51
  i45 := by kernel_rfl }
open Go.RowKit in
/-- binary.Uvarint: "Uvarint decodes a uint64 from buf and returns that value and the number of bytes read (> 0). If an error occurred, the value is 0 and the number of bytes n is <= 0 meaning: n == 0: buf too small; n < 0: value larger than 64 bits (overflow) and -n is the number of bytes read.": 'Lib.uvarintDec' OF buf's BYTES, both results. The world is as it was. (LAID: no walk: one application.) -/
theorem Yba.binary_Uvarint (g o n c : Nat) (l : List UInt8) (w : World) (hl : l.length = n) (hcell : ∀ j (hj : j < l.length), w.cell? ⟨g, o + j, none⟩ = some (.int .u8 (l[j]).toNat)) :
    Calls Yba.prog 17 #[.slice (some ⟨g, o, none⟩) n c] w fun e w' => e = .returned (.tuple #[.int .u64 (Lib.uvarintDec l).1, .int .i64 (Lib.uvarintDec l).2]) ∧ w' = w := Any.binary_Uvarint Yba.laysBin45 g o n c l w hl hcell
end Go.Proofs
