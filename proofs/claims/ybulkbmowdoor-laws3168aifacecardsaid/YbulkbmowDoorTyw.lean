/-
  zzs3168aty, walked.
-/
import Derived.Test.YbulkbmowDoorTy
namespace Go.Proofs.YbulkbmowDoor
open Go.RowKit Go

/-- A row of bytes that came in. -/
def U8Row (w : World) (v : Value) (args : List Nat) : Prop :=
  ∃ a c, v = .slice a args.length c ∧ (∀ x ∈ args, x < 256) ∧ (0 < args.length → ∃ g o, a = some ⟨g, o, none⟩ ∧ ∀ j (h : j < args.length), w.cell? ⟨g, o + j, none⟩ = some (.int .u8 args[j]))

set_option maxRecDepth 100000 in
set_option maxHeartbeats 1000000 in
theorem ty_par (L sel np : Nat) (av : Value) (w : World) (t0 t1 t2 : Int) (hs : sel < 256) (_hn : np ≤ 2) (ht : Tab L w) (hL : L ≤ w.heap.size) (h : isPar sel np = true) :
    Calls Ybad.prog 6 #[.int .u8 sel, av, .int .i64 np, .agg #[.int .i64 t0, .int .i64 t1, .int .i64 t2]] w fun e w' => e = .returned (.tuple #[tyV (pnameOf (sel % 5 - 3)) (.slice none 0 0), .string (⟨#[35]⟩ ++ num ((sel % 5 - 3 : Nat) : Int))]) ∧ Below w.heap.size w w' := by
  have hd : 3 ≤ sel % 5 ∧ sel % 5 - 3 < np := of_decide_eq_true h
  have hbx := two_below w (Obj.cells #[Value.int IntKind.i64 t0, Value.int IntKind.i64 t1, Value.int IntKind.i64 t2] 30) (Obj.cells #[Value.int IntKind.i64 0, Value.int IntKind.i64 0, Value.string ⟨#[]⟩, Value.slice none 0 0] 43)
  obtain ⟨i, hi⟩ : ∃ i, sel % 5 = i + 3 := ⟨sel % 5 - 3, by omega⟩
  have hi2 : i < 2 := by omega
  have h5 : (sel : Int) % 5 = (i : Int) + 3 := by omega
  have e3 : sel % 5 - 3 = i := by omega
  have hin : i < np := by omega
  rw [e3]
  have HB0 : Hid (Below w.heap.size w _) := hbx
  obtain ⟨hr7, hr8⟩ := two_rows w (Obj.cells #[Value.int IntKind.i64 t0, Value.int IntKind.i64 t1, Value.int IntKind.i64 t2] 30) (Obj.cells #[Value.int IntKind.i64 0, Value.int IntKind.i64 0, Value.string ⟨#[]⟩, Value.slice none 0 0] 43)
  have HR8 : Hid (_ = some (Obj.cells #[Value.int IntKind.i64 0, Value.int IntKind.i64 0, Value.string ⟨#[]⟩, Value.slice none 0 0] 43 (0, 0))) := hr8
  have HT : Hid (Tab L _) := ht.below hbx hL
  clear hbx hd h hr7 hr8 ht e3
  go_enter Ybad.func6, Ybad.ntmps6
  go_wp2_with fail
  generalize (w.alloc (Obj.cells #[Value.int IntKind.i64 t0, Value.int IntKind.i64 t1, Value.int IntKind.i64 t2] 30)).alloc (Obj.cells #[Value.int IntKind.i64 0, Value.int IntKind.i64 0, Value.string ⟨#[]⟩, Value.slice none 0 0] 43) = X at *
  generalize hR : w.heap.size = R at *
  refine (pname_any i hi2 X).mono ?_
  rintro e w0 ⟨rfl, rfl⟩
  have hnz := num_size (i : Int) ⟨by omega, by omega⟩
  generalize hnm : pnameOf i = nm at *
  have HNM : Hid (pnameOf i = nm) := hnm
  clear hnm
  go_wp2_with fail
  refine (itoa_any L (i : Int) ⟨by omega, by omega⟩ X HT.out).mono ?_
  rintro e w1 ⟨rfl, hb1⟩
  have hr8 := (hb1.block _ (Array.getElem?_eq_some_iff.1 HR8.out).1).trans HR8.out
  have r0 := cell_row (j := 0) hr8 rfl
  have r1 := cell_row (j := 1) hr8 rfl
  have r2 := cell_row (j := 2) hr8 rfl
  have r3 := cell_row (j := 3) hr8 rfl
  have rf : ∀ j, w1.frozen? ⟨R + 1, j, none⟩ = false := fun j => by simp [World.frozen?, hr8]
  have HB1 : Hid (Below R w w1) := HB0.out.trans (hb1.mono (by have := HB0.out.size; omega))
  generalize hnt : num (i : Int) = nt at *
  have HNT : Hid (num (i : Int) = nt) := hnt
  clear hnt
  have hs1 : (⟨#[35]⟩ : ByteArray).size = 1 := rfl
  go_wp2_with fail
  refine bodyPost_ret (v := .tuple #[tyV nm (.slice none 0 0), .string (⟨#[35]⟩ ++ nt)]) (by simp [results, Ybad.results6, go_sem, r0, r1, r2, r3, tyV]) rfl ?_
  refine ⟨by rw [HNM.out, HNT.out], ?_⟩
  rw [hR]
  exact (((HB1.out.setCell (by show R ≤ R + 1; omega) _).setCell (by show R ≤ R + 1; omega) _).setCell (by show R ≤ R + 1; omega) _).setCell (by show R ≤ R + 1; omega) _
end Go.Proofs.YbulkbmowDoor
