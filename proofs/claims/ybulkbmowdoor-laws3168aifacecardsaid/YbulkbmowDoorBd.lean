/-
  The builder, Itoa and the frame, in this seat's words.
-/
import Derived.Test.YbulkbmowDoorNum
import Derived.Lib.AppendIntMem
import Derived.Lib.ItoaLen
import Derived.Lib.SlicesS
namespace Go.Proofs.YbulkbmowDoor
open Go.RowKit Go

/-- The table of powers lies laid, ahead of block L. -/
structure Tab (L : Nat) (w : World) : Prop where
  is : Lib.TabIs Ybad.prog w Ybad.powName .u64 Lib.pow10Tab
  lt : ∀ g, Ybad.prog.globalNamed Ybad.powName = some g → g < L

theorem Tab.below {L B : Nat} {w w' : World} (h : Tab L w) (hb : Below B w w') (hL : L ≤ B) : Tab L w' := by
  refine ⟨?_, h.lt⟩
  have h1 := h.is
  unfold Lib.TabIs World.var? at h1 ⊢
  cases hg : Ybad.prog.globalNamed Ybad.powName with
  | none => rw [hg] at h1; simp at h1
  | some g =>
    rw [hg] at h1
    simp only [Option.bind_some] at h1 ⊢
    have := h.lt g hg
    rw [hb.block g (by omega)]
    exact h1

def num (n : Int) : ByteArray := ⟨(Lib.itoa n).toArray⟩
def Fits (n : Int) : Prop := -9223372036854775808 ≤ n ∧ n ≤ 9223372036854775807

theorem num_size (n : Int) (h : Fits n) : (num n).size ≤ 21 := by
  have := Lib.itoa_length_le n h.1 h.2
  show (Lib.itoa n).toArray.size ≤ 21
  simpa using this

theorem itoa_any (L : Nat) (n : Int) (h : Fits n) (w : World) (ht : Tab L w) : Calls Ybad.prog 13 #[.int .i64 n] w fun e w' => e = .returned (.string (num n)) ∧ Below w.heap.size w w' := by
  refine (Ybad.strconv_Itoa n h.1 h.2 w ht.is).mono ?_
  rintro e w' ⟨rfl, k, os, rfl⟩
  exact ⟨rfl, Lib.below_grow _ w (Nat.le_refl _) k os⟩

/-- The builder at block b holds the text acc. -/
def Bd (B b : Nat) (acc : ByteArray) (w : World) : Prop := Lib.IsBuilderF 101 5 B b (Lib.strCells acc) w
/-- What a call that writes the builder leaves as it was. -/
structure Fr (B b : Nat) (w w' : World) : Prop where
  bel : Below B w w'
  oth : Lib.OthersKept 5 (some b) w w'

theorem Fr.refl (B b : Nat) (w : World) : Fr B b w w := ⟨Below.refl _ _, Lib.OthersKept.refl _ _ _⟩
theorem Fr.trans {B b : Nat} {a c d : World} (h : Fr B b a c) (k : Fr B b c d) : Fr B b a d := ⟨h.bel.trans k.bel, h.oth.trans k.oth⟩
theorem Fr.of {B b : Nat} {w w' : World} (h : Below w.heap.size w w') (hB : B ≤ w.heap.size) : Fr B b w w' :=
  ⟨h.mono hB, fun k _ hk _ _ => (h.block k (Array.getElem?_eq_some_iff.1 hk).1).trans hk⟩

theorem grown_none {w w' : World} (h : Below w.heap.size w w') : w.grownBy w' none := ⟨h.os, h.tape, h.output, h.size, fun k hk _ => h.block k hk⟩

theorem builder_kept {B b : Nat} {p : Value} {bs : List Value} {w w' : World} (h : Lib.BuilderAtF 101 5 B b p bs w) (hb : Below w.heap.size w w') : Lib.BuilderAtF 101 5 B b p bs w' := by
  obtain ⟨h1, v, h2, h3, h4⟩ := h
  refine ⟨h1, v, (hb.block b (Array.getElem?_eq_some_iff.1 h2).1).trans h2, h3.kept (grown_none hb) ?_, h4⟩
  cases v.ownBlock with
  | none => exact .inl rfl
  | some g => exact .inr (by simp)

theorem Bd.kept {B b : Nat} {acc : ByteArray} {w w' : World} (h : Bd B b acc w) (hb : Below w.heap.size w w') : Bd B b acc w' := by
  rcases h with h | h
  · exact .inl (builder_kept h hb)
  · exact .inr (builder_kept h hb)

theorem Bd.lt {B b : Nat} {acc : ByteArray} {w : World} (h : Bd B b acc w) : b < w.heap.size := by
  rcases h with h | h
  · exact h.lt
  · exact h.lt

theorem strCells_append (a s : ByteArray) : Lib.strCells (a ++ s) = Lib.strCells a ++ Lib.strCells s := by
  rw [Lib.strCells_eq, Lib.strCells_eq, Lib.strCells_eq]
  simp [Lib.byteCells]

theorem write_any (B b : Nat) (acc s : ByteArray) (w : World) (h : Bd B b acc w) (hlen : acc.size + s.size ≤ 140737488355328) (hBw : B ≤ w.heap.size) :
    Calls Ybad.prog 18 #[.pointer (some ⟨b, 0, none⟩), .string s] w fun e w' => e = .returned (.tuple #[.int .i64 s.size, .nilIface]) ∧ Bd B b (acc ++ s) w' ∧ Fr B b w w' := by
  refine (Ybad.Builder_WriteString_k B b (Lib.strCells acc) s w h (by rw [Lib.strCells_length]; exact hlen) hBw).mono ?_
  rintro e w' ⟨rfl, h1, h2, h3⟩
  refine ⟨rfl, .inr ?_, ⟨h2, h3⟩⟩
  rw [strCells_append]
  exact h1

theorem string_any (B b : Nat) (acc : ByteArray) (w : World) (h : Bd B b acc w) (hBw : B ≤ w.heap.size) :
    Calls Ybad.prog 27 #[.pointer (some ⟨b, 0, none⟩)] w fun e w' => e = .returned (.string acc) ∧ Bd B b acc w' ∧ Fr B b w w' := by
  refine (Ybad.Builder_String_any_k B b acc.data.toList w h hBw).mono ?_
  rintro e w' ⟨rfl, h1, h2, h3⟩
  exact ⟨by simp, h1, ⟨h2, h3⟩⟩

/-- A new builder. -/
theorem bd_new (w : World) : Bd w.heap.size w.heap.size ByteArray.empty (w.alloc (.cells #[.pointer none, .slice none 0 0] 101)) :=
  .inl ⟨Nat.le_refl _, .slice none 0 0, heap_alloc_newD _ _, World.ownsRowF_nil _ _ _ _, by simp [Value.ownBlock]⟩
end Go.Proofs.YbulkbmowDoor
