/-
  PLAIN: entries, their bytes, what they decode to. No Go in sight.
-/
import Derived.Lib.Varint
import Derived.Lib.VarintDec
import Derived.Lib.VarintMem
import Derived.Lib.EndianMore
import Derived.Lib.UnsafeStr
namespace Go.Proofs.Ybulkbmoi
open Go

/-- An entry as it came in. -/
structure Ent where
  gap : Nat
  zeros : Bool
  crc : Nat

/-- A decoded entry. -/
structure Clu where
  idx : Nat
  zeros : Bool
  crc : Nat

def Ent.ok (e : Ent) : Prop := e.gap < 65536 ∧ e.crc < 4294967296

/-- What is decoded; 'nxt' is the cluster behind the last. -/
def decode : Nat → List Ent → List Clu
  | _, [] => []
  | nxt, e :: es => ⟨nxt + e.gap, e.zeros, if e.zeros then 0 else e.crc⟩ :: decode (nxt + e.gap + 1) es

/-- The cluster behind the last, when all are read. -/
def nextOf : Nat → List Ent → Nat
  | nxt, [] => nxt
  | nxt, e :: es => nextOf (nxt + e.gap + 1) es

def numOf (e : Ent) : Nat := 2 * e.gap + (if e.zeros then 1 else 0) + 1
def code (e : Ent) : List UInt8 := Lib.uvarint (numOf e) ++ (if e.zeros then [] else Lib.beBytes 4 e.crc)
def codes (es : List Ent) : List UInt8 := es.flatMap code
def encode (es : List Ent) : List UInt8 := codes es ++ [0]

def cluCell (c : Clu) : List Value := [.int .i64 c.idx, .bool c.zeros, .int .u32 c.crc]
def cluCells (cs : List Clu) : List Value := cs.flatMap cluCell

theorem numOf_pos (e : Ent) : 1 ≤ numOf e := by unfold numOf; omega
theorem numOf_lt (e : Ent) (h : e.ok) : numOf e ≤ 131072 := by unfold numOf; have := h.1; split <;> omega

theorem code_len (e : Ent) (h : e.ok) : 1 ≤ (code e).length ∧ (code e).length ≤ 7 := by
  have h1 := Lib.uvarint_pos (numOf e)
  have h2 : (Lib.uvarint (numOf e)).length ≤ 3 := Lib.uvarint_length 2 _ (by have := numOf_lt e h; omega)
  unfold code
  split <;> simp [Lib.beBytes_length] <;> omega

theorem codes_snoc (es : List Ent) (e : Ent) : codes (es ++ [e]) = codes es ++ code e := by unfold codes; simp
theorem codes_cons (es : List Ent) (e : Ent) : codes (e :: es) = code e ++ codes es := by unfold codes; simp

theorem codes_len (es : List Ent) (h : ∀ e ∈ es, e.ok) : (codes es).length ≤ 7 * es.length := by
  induction es with
  | nil => simp [codes]
  | cons e es ih =>
    rw [codes_cons]
    have h1 := (code_len e (h e (by simp))).2
    have h2 := ih (fun x hx => h x (by simp [hx]))
    simp
    omega

theorem decode_length : ∀ (es : List Ent) (n : Nat), (decode n es).length = es.length
  | [], _ => rfl
  | _ :: es, n => by simp [decode, decode_length es]

theorem decode_snoc : ∀ (es : List Ent) (n : Nat) (e : Ent), decode n (es ++ [e]) = decode n es ++ [⟨nextOf n es + e.gap, e.zeros, if e.zeros then 0 else e.crc⟩]
  | [], _, _ => rfl
  | _ :: es, n, e => by simp [decode, nextOf, decode_snoc es]

theorem nextOf_snoc : ∀ (es : List Ent) (n : Nat) (e : Ent), nextOf n (es ++ [e]) = nextOf n es + e.gap + 1
  | [], _, _ => rfl
  | _ :: es, n, e => by simp [nextOf, nextOf_snoc es]

theorem nextOf_le : ∀ (es : List Ent) (n : Nat), (∀ e ∈ es, e.ok) → nextOf n es ≤ n + 65536 * es.length
  | [], n, _ => by simp [nextOf]
  | e :: es, n, h => by
    have h1 := nextOf_le es (n + e.gap + 1) (fun x hx => h x (by simp [hx]))
    have h2 := (h e (by simp)).1
    simp [nextOf]
    omega

theorem cluCells_snoc (cs : List Clu) (c : Clu) : cluCells (cs ++ [c]) = cluCells cs ++ cluCell c := by unfold cluCells; simp
theorem cluCells_length (cs : List Clu) : (cluCells cs).length = cs.length * 3 := by
  induction cs with
  | nil => rfl
  | cons c cs ih => unfold cluCells at ih ⊢; rw [List.flatMap_cons, List.length_append, ih]; simp [cluCell]; omega

theorem cluCells_at (cs : List Clu) : ∀ (j : Nat) (hj : j < cs.length), (cluCells cs)[j * 3]? = some (.int .i64 cs[j].idx) ∧ (cluCells cs)[j * 3 + 1]? = some (.bool cs[j].zeros) ∧ (cluCells cs)[j * 3 + 2]? = some (.int .u32 cs[j].crc) := by
  induction cs with
  | nil => intro j h; simp at h
  | cons c cs ih =>
    intro j hj
    have e : cluCells (c :: cs) = cluCell c ++ cluCells cs := by unfold cluCells; simp
    rw [e]
    cases j with
    | zero => simp [cluCell]
    | succ j =>
      have hl : (cluCell c).length = 3 := rfl
      rw [List.getElem?_append_right (by omega), List.getElem?_append_right (by omega), List.getElem?_append_right (by omega), hl]
      have h := ih j (by simpa using hj)
      rw [show (j + 1) * 3 - 3 = j * 3 by omega, show (j + 1) * 3 + 1 - 3 = j * 3 + 1 by omega, show (j + 1) * 3 + 2 - 3 = j * 3 + 2 by omega]
      simpa using h

/-! ### What Uvarint reads -/
theorem from_small (i acc x : Nat) (r : List UInt8) (hx : x < 128) (hi : i < 9) : Lib.uvarintFrom i acc (Lib.uvarint x ++ r) = (acc + x * 2 ^ (7 * i), (i : Int) + 1) := by
  rw [Lib.uvarint_small hx]
  have e : (x.toUInt8).toNat = x := by simp [Nat.toUInt8, UInt8.toNat_ofNat']; omega
  simp only [List.singleton_append, Lib.uvarintFrom, e]
  rw [if_neg (by omega), if_pos hx, if_neg (by omega)]

theorem from_big (i acc x : Nat) (r : List UInt8) (hx : 128 ≤ x) (hi : i < 9) : Lib.uvarintFrom i acc (Lib.uvarint x ++ r) = Lib.uvarintFrom (i + 1) (acc + x % 128 * 2 ^ (7 * i)) (Lib.uvarint (x / 128) ++ r) := by
  rw [Lib.uvarint_big hx]
  have e : ((x % 128 + 128).toUInt8).toNat = x % 128 + 128 := by simp [Nat.toUInt8, UInt8.toNat_ofNat']; omega
  simp only [List.cons_append, Lib.uvarintFrom, e]
  rw [if_neg (by omega), if_neg (by omega)]
  congr 2
  rw [show (x % 128 + 128) % 128 = x % 128 by omega]

theorem dec_uvarint (x : Nat) (r : List UInt8) (h : x < 2097152) : Lib.uvarintDec (Lib.uvarint x ++ r) = (x, ((Lib.uvarint x).length : Int)) := by
  unfold Lib.uvarintDec
  by_cases h1 : x < 128
  · rw [from_small 0 0 x r h1 (by omega), Lib.uvarint_small h1]
    simp
  · by_cases h2 : x / 128 < 128
    · have hl : (Lib.uvarint x).length = 2 := by rw [Lib.uvarint_big (x := x) (by omega), List.length_cons, Lib.uvarint_small h2]; rfl
      rw [hl, from_big 0 0 x r (by omega) (by omega), from_small _ _ _ r h2 (by omega)]
      simp
      omega
    · have hl : (Lib.uvarint x).length = 3 := by rw [Lib.uvarint_big (x := x) (by omega), List.length_cons, Lib.uvarint_big (x := x / 128) (by omega), List.length_cons, Lib.uvarint_small (by omega)]; rfl
      rw [hl, from_big 0 0 x r (by omega) (by omega), from_big _ _ _ r (by omega) (by omega), from_small _ _ _ r (by omega) (by omega)]
      simp
      omega

theorem dec_zero (r : List UInt8) : Lib.uvarintDec (0 :: r) = (0, 1) := by
  unfold Lib.uvarintDec
  simp [Lib.uvarintFrom]

end Go.Proofs.Ybulkbmoi
