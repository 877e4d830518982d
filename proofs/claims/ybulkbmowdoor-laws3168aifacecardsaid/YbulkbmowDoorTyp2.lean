/-
  numbering.typ at a type with arguments.
-/
import Derived.Test.YbulkbmowDoorTyp
namespace Go.Proofs.YbulkbmowDoor
open Go.RowKit Go

/-- The arguments' row: types without arguments of their own. -/
def TyArgs (w : World) (v : Value) (args : List ByteArray) : Prop :=
  ∃ a c, v = .slice a args.length c ∧ (0 < args.length → ∃ g cur, a = some ⟨g, 0, none⟩ ∧ w.heap[g]? = some (.cells cur 43 (0, 0)) ∧ ∀ j (h : j < args.length), cur[j * 4]? = some (.int .i64 0) ∧ cur[j * 4 + 1]? = some (.int .i64 0) ∧ cur[j * 4 + 2]? = some (.string args[j]) ∧ cur[j * 4 + 3]? = some (.slice none 0 0))

theorem TyArgs.below {w w' : World} {v : Value} {args : List ByteArray} (h : TyArgs w v args) (hb : Below w.heap.size w w') : TyArgs w' v args := by
  obtain ⟨a, c, h1, h2⟩ := h
  refine ⟨a, c, h1, fun hp => ?_⟩
  obtain ⟨g, cur, h3, h4, h5⟩ := h2 hp
  exact ⟨g, cur, h3, (hb.block g (Array.getElem?_eq_some_iff.1 h4).1).trans h4, h5⟩

theorem TyArgs.fr {w w' : World} {v : Value} {args : List ByteArray} {B b : Nat} {acc : ByteArray} (h : TyArgs w v args) (hb : Bd B b acc w) (hf : Fr B b w w') : TyArgs w' v args := by
  obtain ⟨a, c, h1, h2⟩ := h
  refine ⟨a, c, h1, fun hp => ?_⟩
  obtain ⟨g, cur, h3, h4, h5⟩ := h2 hp
  exact ⟨g, cur, h3, hf.row hb h4 (by decide) (by decide), h5⟩

/-- What is written of the arguments. -/
def items (t0 t1 t2 : Int) (names args : List ByteArray) : ByteArray := args.foldl (fun s a => s ++ leaf t0 t1 t2 names a ++ ⟨#[44]⟩) ByteArray.empty

structure AfterT (L B b : Nat) (w : World) (p : NBlk) (t0 t1 t2 n0 n1 n2 : Int) (ms sv : Value) (names : List ByteArray) (R : Nat) (nk : ByteArray) (av : Value) (args : List ByteArray) (acc : ByteArray) : Prop where
  env : Env L B b acc w p t0 t1 t2 n0 n1 n2 ms sv names
  r4 : w.heap[R]? = some (Obj.cells #[Value.pointer (some { block := p.sh, off := 0 }), Value.slice (some { block := p.tb, off := 0 }) 3 3, Value.slice (some { block := p.nb, off := 0 }) 3 3] 75 (0, 0))
  r6 : w.heap[R + 1]? = some (Obj.cells #[Value.int IntKind.i64 0, Value.int IntKind.i64 0, Value.string nk, av] 43 (0, 0))
  ta : TyArgs w av args

theorem AfterT.below {L B b : Nat} {w w' : World} {p : NBlk} {t0 t1 t2 n0 n1 n2 : Int} {ms sv : Value} {names : List ByteArray} {R : Nat} {nk : ByteArray} {av : Value} {args : List ByteArray} {acc : ByteArray} (h : AfterT L B b w p t0 t1 t2 n0 n1 n2 ms sv names R nk av args acc) (hb : Below w.heap.size w w') : AfterT L B b w' p t0 t1 t2 n0 n1 n2 ms sv names R nk av args acc :=
  ⟨h.env.below hb, (hb.block _ (Array.getElem?_eq_some_iff.1 h.r4).1).trans h.r4, (hb.block _ (Array.getElem?_eq_some_iff.1 h.r6).1).trans h.r6, h.ta.below hb⟩

theorem AfterT.wrote {L B b : Nat} {w w' : World} {p : NBlk} {t0 t1 t2 n0 n1 n2 : Int} {ms sv : Value} {names : List ByteArray} {R : Nat} {nk : ByteArray} {av : Value} {args : List ByteArray} {acc acc' : ByteArray} (h : AfterT L B b w p t0 t1 t2 n0 n1 n2 ms sv names R nk av args acc) (hf : Fr B b w w') (hbd : Bd B b acc' w') : AfterT L B b w' p t0 t1 t2 n0 n1 n2 ms sv names R nk av args acc' :=
  ⟨h.env.wrote hf hbd, hf.row h.env.bd h.r4 (by decide) (by decide), hf.row h.env.bd h.r6 (by decide) (by decide), h.ta.fr h.env.bd hf⟩

theorem fits_tn {t0 t1 t2 : Int} (h0 : Fits t0) (h1 : Fits t1) (h2 : Fits t2) (k : Nat) : Fits (tn3 t0 t1 t2 k) := by
  unfold tn3
  split
  · exact h0
  · split
    · exact h1
    · exact h2

theorem leaf_size {t0 t1 t2 : Int} (h0 : Fits t0) (h1 : Fits t1) (h2 : Fits t2) (names : List ByteArray) (hn : names.length ≤ 100) (x : ByteArray) : (leaf t0 t1 t2 names x).size ≤ 22 := by
  have hlo : -1 ≤ Lib.idxOfS names x ∧ Lib.idxOfS names x ≤ (0 + names.length : Nat) := idx_lo x names 0
  unfold leaf
  split
  · have := num_size (Lib.idxOfS names x) ⟨by omega, by omega⟩
    rw [ByteArray.size_append]
    have hs : (⟨#[35]⟩ : ByteArray).size = 1 := rfl
    omega
  · have := num_size _ (fits_tn h0 h1 h2 (nid x))
    rw [ByteArray.size_append]
    have hs : (⟨#[84]⟩ : ByteArray).size = 1 := rfl
    omega

theorem items_snoc (t0 t1 t2 : Int) (names l : List ByteArray) (a : ByteArray) : items t0 t1 t2 names (l ++ [a]) = items t0 t1 t2 names l ++ leaf t0 t1 t2 names a ++ ⟨#[44]⟩ := by
  unfold items
  rw [List.foldl_append]
  rfl

theorem items_size {t0 t1 t2 : Int} (h0 : Fits t0) (h1 : Fits t1) (h2 : Fits t2) (names : List ByteArray) (hn : names.length ≤ 100) (args : List ByteArray) : ∀ n, (items t0 t1 t2 names (args.take n)).size ≤ n * 23 := by
  intro n
  induction n with
  | zero => simp [items]
  | succ n ih =>
    by_cases h : n < args.length
    · rw [List.take_succ_eq_append_getElem h, items_snoc, ByteArray.size_append, ByteArray.size_append]
      have := leaf_size h0 h1 h2 names hn args[n]
      have hs : (⟨#[44]⟩ : ByteArray).size = 1 := rfl
      omega
    · rw [List.take_of_length_le (by omega)]
      rw [List.take_of_length_le (by omega)] at ih
      omega

set_option maxRecDepth 100000 in
set_option maxHeartbeats 1000000 in
theorem typ_args (L B b : Nat) (acc x : ByteArray) (w : World) (p : NBlk) (t0 t1 t2 n0 n1 n2 : Int) (ms sv : Value) (names : List ByteArray) (aa : Option Addr) (ac : Nat) (args : List ByteArray) (hargs : TyArgs w (.slice aa args.length ac) args) (hoa : ∀ a ∈ args, OkName names a) (ha0 : 0 < args.length) (ha3 : args.length ≤ 300) (h : Env L B b acc w p t0 t1 t2 n0 n1 n2 ms sv names) (hx : ∃ k, k < 3 ∧ x = nameOf k) (hxi : ¬ 0 ≤ Lib.idxOfS names x) (hn : names.length ≤ 100) (hsz : acc.size ≤ 900000000000) :
    Calls Ybad.prog 20 #[p.val, .pointer (some ⟨b, 0, none⟩), tyV x (.slice aa args.length ac), sv] w fun e w' => e = .returned (.tuple #[]) ∧ Bd B b (acc ++ leaf t0 t1 t2 names x ++ ⟨#[91]⟩ ++ items t0 t1 t2 names args ++ ⟨#[93]⟩) w' ∧ Fr B b w w' := by
  have hlo : -1 ≤ Lib.idxOfS names x ∧ Lib.idxOfS names x ≤ (0 + names.length : Nat) := idx_lo x names 0
  unfold NBlk.val tyV
  have hX := h.below (two_below w (Obj.cells #[Value.pointer (some { block := p.sh, off := 0 }), Value.slice (some { block := p.tb, off := 0 }) 3 3, Value.slice (some { block := p.nb, off := 0 }) 3 3] 75) (Obj.cells #[Value.int IntKind.i64 0, Value.int IntKind.i64 0, Value.string x, Value.slice aa args.length ac] 43))
  have hF : Fr B b w _ := Fr.of (two_below w (Obj.cells #[Value.pointer (some { block := p.sh, off := 0 }), Value.slice (some { block := p.tb, off := 0 }) 3 3, Value.slice (some { block := p.nb, off := 0 }) 3 3] 75) (Obj.cells #[Value.int IntKind.i64 0, Value.int IntKind.i64 0, Value.string x, Value.slice aa args.length ac] 43)) h.hB
  obtain ⟨hr4, hr6⟩ := two_rows w (Obj.cells #[Value.pointer (some { block := p.sh, off := 0 }), Value.slice (some { block := p.tb, off := 0 }) 3 3, Value.slice (some { block := p.nb, off := 0 }) 3 3] 75) (Obj.cells #[Value.int IntKind.i64 0, Value.int IntKind.i64 0, Value.string x, Value.slice aa args.length ac] 43)
  have HX : Hid (Env L B b acc _ p t0 t1 t2 n0 n1 n2 ms sv names) := hX
  have HF : Hid (Fr B b w _) := hF
  have HR4 : Hid (_ = some (Obj.cells #[Value.pointer (some { block := p.sh, off := 0 }), Value.slice (some { block := p.tb, off := 0 }) 3 3, Value.slice (some { block := p.nb, off := 0 }) 3 3] 75 (0, 0))) := hr4
  have HR6 : Hid (_ = some (Obj.cells #[Value.int IntKind.i64 0, Value.int IntKind.i64 0, Value.string x, Value.slice aa args.length ac] 43 (0, 0))) := hr6
  have HTA : Hid (TyArgs _ (.slice aa args.length ac) args) := hargs.below (two_below w (Obj.cells #[Value.pointer (some { block := p.sh, off := 0 }), Value.slice (some { block := p.tb, off := 0 }) 3 3, Value.slice (some { block := p.nb, off := 0 }) 3 3] 75) (Obj.cells #[Value.int IntKind.i64 0, Value.int IntKind.i64 0, Value.string x, Value.slice aa args.length ac] 43))
  clear hX hF hr4 hr6 h hargs
  go_enter Ybad.func20, Ybad.ntmps20
  go_wp2_with fail
  generalize (w.alloc (Obj.cells #[Value.pointer (some { block := p.sh, off := 0 }), Value.slice (some { block := p.tb, off := 0 }) 3 3, Value.slice (some { block := p.nb, off := 0 }) 3 3] 75)).alloc (Obj.cells #[Value.int IntKind.i64 0, Value.int IntKind.i64 0, Value.string x, Value.slice aa args.length ac] 43) = X at *
  generalize hR : w.heap.size = R at *
  refine (index_any sv names x X HX.out.sc (by omega)).mono ?_
  rintro e w0 ⟨rfl, rfl⟩
  · obtain ⟨k, hk, rfl⟩ := hx
    have h0 := hxi
    have HLF : Hid (leaf t0 t1 t2 names (nameOf k) = ⟨#[84]⟩ ++ num (tn3 t0 t1 t2 k)) := by show _ = _; unfold leaf; rw [if_neg (by omega), nid_name k hk]
    have hN := HX.out.num
    have a0 := cell_row (j := 0) HR4.out rfl
    have a1 := cell_row (j := 1) HR4.out rfl
    have a2 := cell_row (j := 2) HR4.out rfl
    have g2 := cell_row (j := 2) HR6.out rfl
    have g3 := cell_row (j := 3) HR6.out rfl
    have s1 := cell_row (j := 1) hN.sh rfl
    have tk : w0.cell? ⟨p.tb, k, none⟩ = some (.int .i64 (tn3 t0 t1 t2 k)) := by
      match k, hk with
      | 0, _ => exact cell_row (j := 0) hN.tb rfl
      | 1, _ => exact cell_row (j := 1) hN.tb rfl
      | 2, _ => exact cell_row (j := 2) hN.tb rfl
    have hlk : ∀ n, (Instr.lookup 95 (.map (some p.mt)) (.string (nameOf k)) false).run Ybad.prog (w0.drewN n) = .ok (.int .i64 k) (w0.drewN n) := fun n => by
      match k, hk with
      | 0, _ => exact look_ents (w0.drewN n) p.mt 65 66 67 _ 0 0 hN.mt rfl
      | 1, _ => exact look_ents (w0.drewN n) p.mt 65 66 67 _ 1 1 hN.mt rfl
      | 2, _ => exact look_ents (w0.drewN n) p.mt 65 66 67 _ 2 2 hN.mt rfl
    have hlk1 : (Instr.lookup 95 (.map (some p.mt)) (.string (nameOf k)) false).run Ybad.prog w0.drew = .ok (.int .i64 k) w0.drew := hlk 1
    have hfk : Fits (tn3 t0 t1 t2 k) := by
      have h1 := HX.out.f0
      have h2 := HX.out.f1
      have h3 := HX.out.f2
      unfold tn3
      split
      · exact h1
      · split
        · exact h2
        · exact h3
    have hnz := num_size (tn3 t0 t1 t2 k) hfk
    have HI : Hid (∀ W, Below w0.heap.size w0 W → Calls Ybad.prog 13 #[.int .i64 (tn3 t0 t1 t2 k)] W fun e w1 => e = .returned (.string (num (tn3 t0 t1 t2 k))) ∧ Below w0.heap.size w0 w1 ∧ Five w1 R p (nameOf k) k (tn3 t0 t1 t2 k)) := fun W hW => by
      have hE := HX.out.below hW
      refine (itoa_any L _ hfk W hE.tab).mono ?_
      rintro e w1 ⟨rfl, hb1⟩
      have hb := hW.trans (hb1.mono hW.size)
      exact ⟨rfl, hb, (five_of hk hN HR4.out HR6.out).below hb⟩
    have HW : Hid (∀ w1, Below w0.heap.size w0 w1 → Calls Ybad.prog 18 #[.pointer (some ⟨b, 0, none⟩), .string (⟨#[84]⟩ ++ num (tn3 t0 t1 t2 k))] w1 fun e w2 => e = .returned (.tuple #[.int .i64 (⟨#[84]⟩ ++ num (tn3 t0 t1 t2 k)).size, .nilIface]) ∧ Bd B b (acc ++ (⟨#[84]⟩ ++ num (tn3 t0 t1 t2 k))) w2 ∧ Fr B b w0 w2 ∧ AfterT L B b w2 p t0 t1 t2 n0 n1 n2 ms sv names R (nameOf k) (.slice aa args.length ac) args (acc ++ (⟨#[84]⟩ ++ num (tn3 t0 t1 t2 k))) ∧ w2.cell? ⟨R + 1, 3, none⟩ = some (.slice aa args.length ac) ∧ Five w2 R p (nameOf k) k (tn3 t0 t1 t2 k)) := fun w1 hb => by
      have hE := HX.out.below hb
      have e4 := (hb.block _ (Array.getElem?_eq_some_iff.1 HR4.out).1).trans HR4.out
      have e6 := (hb.block _ (Array.getElem?_eq_some_iff.1 HR6.out).1).trans HR6.out
      refine (write_any B b acc _ w1 hE.bd (by rw [ByteArray.size_append]; have hs : (⟨#[84]⟩ : ByteArray).size = 1 := rfl; omega) hE.hB).mono ?_
      rintro e w2 ⟨rfl, hbd2, hf2⟩
      exact ⟨rfl, hbd2, (Fr.of hb HX.out.hB).trans hf2, ⟨hE.wrote hf2 hbd2, hf2.row hE.bd e4 (by decide) (by decide), hf2.row hE.bd e6 (by decide) (by decide), (HTA.out.below hb).fr hE.bd hf2⟩, cell_row (j := 3) (hf2.row hE.bd e6 (by decide) (by decide)) rfl, five_of hk (hE.num.fr hE.bd hf2) (hf2.row hE.bd e4 (by decide) (by decide)) (hf2.row hE.bd e6 (by decide) (by decide))⟩
    have j0 : (0 : Int) ≤ (k : Int) := by omega
    have j1 : (k : Int) < 3 := by omega
    have hs1 : (⟨#[84]⟩ : ByteArray).size = 1 := rfl
    generalize num (tn3 t0 t1 t2 k) = nt at *
    generalize tn3 t0 t1 t2 k = tv at *
    generalize hnk : nameOf k = nk at *
    have HNK : Hid (nameOf k = nk) := hnk
    clear hnk
    have hadd : ∀ W : World, (Op.stringOp .add ⟨#[84]⟩ nt).run Ybad.prog W = .ok (.string (⟨#[84]⟩ ++ nt)) W := fun W => run_string_add_sum W _ _ (by rw [hs1]; omega)
    have hcat : 1 + nt.size ≤ 9223372036854775807 := by omega
    go_wp2_with fail
    clear hN
    go_region_held3 (fun w' => w'.cell? ⟨R, 0, none⟩ = some (.pointer (some ⟨p.sh, 0, none⟩)) ∧ w'.cell? ⟨R, 1, none⟩ = some (.slice (some ⟨p.tb, 0, none⟩) 3 3) ∧ w'.cell? ⟨R + 1, 2, none⟩ = some (.string nk) ∧ w'.cell? ⟨p.sh, 1, none⟩ = some (.map (some p.mt)) ∧ w'.cell? ⟨p.tb, k, none⟩ = some (.int .i64 tv)) (go_keep) ((first | (go_at_call 13; refine (HI.out _ ?_).mono ?_; (exact ⟨rfl, rfl, rfl, Nat.le_refl _, fun _ _ => rfl⟩); rintro e w1 ⟨rfl, hb1, u0, u1, u2, u3, u4⟩) | (go_at_call 18; refine (HW.out w1 ?_).mono ?_; (exact hb1); rintro e w2 ⟨rfl, hbd2, hf2, hAT, y5, y0, y1, y2, y3, y4⟩)))
    go_wp2_with fail
    have hA1 : (acc ++ (⟨#[84]⟩ ++ nt)).size ≤ 900000000022 := by rw [ByteArray.size_append, ByteArray.size_append, hs1]; omega
    have HFT := HF.out.trans hf2
    have hT0 := HX.out.f0
    have hT1 := HX.out.f1
    have hT2 := HX.out.f2
    have HACC : Hid (acc ++ leaf t0 t1 t2 names nk = acc ++ (⟨#[84]⟩ ++ nt)) := by show _ = _; rw [HLF.out]
    clear HI HW HLF hadd hcat u0 u1 u2 u3 u4 y0 y1 y2 y3 y4 a0 a1 a2 g2 g3 s1 tk hlk hlk1 HTA HX HR4 HR6 HF hb1 hbd2 hf2
    generalize acc ++ (⟨#[84]⟩ ++ nt) = acc1 at *
    have hs91 : (⟨#[91]⟩ : ByteArray).size = 1 := rfl
    refine (write_any B b acc1 ⟨#[91]⟩ w2 hAT.env.bd (by rw [hs91]; omega) hAT.env.hB).mono ?_
    rintro e w3 ⟨rfl, hbd3, hf3⟩
    have hAT3 := hAT.wrote hf3 hbd3
    have hA2 : (acc1 ++ ⟨#[91]⟩).size ≤ 900000000023 := by rw [ByteArray.size_append, hs91]; omega
    have HFT3 : Hid (Fr B b w w3) := HFT.trans hf3
    have HAT3 : Hid (AfterT L B b w3 p t0 t1 t2 n0 n1 n2 ms sv names R nk (.slice aa args.length ac) args (acc1 ++ ⟨#[91]⟩)) := hAT3
    have r3 := cell_row (j := 3) hAT3.r6 rfl
    clear hAT hbd3 hf3 hAT3 HFT
    go_wp2_with fail
    go_loopw [47] (fun i wr => ∃ j : Nat, j ≤ args.length ∧ i = .int .i64 j ∧ AfterT L B b wr p t0 t1 t2 n0 n1 n2 ms sv names R nk (.slice aa args.length ac) args (acc1 ++ ⟨#[91]⟩ ++ items t0 t1 t2 names (args.take j)) ∧ Fr B b w wr) (fun i _ => args.length - (intOf i).toNat)
    case atStart => exact ⟨0, Nat.zero_le _, rfl, by simpa [items] using HAT3.out, HFT3.out⟩
    case round =>
      obtain ⟨j, hj, rfl, hAT, hFT⟩ := hrel
      clear HAT3 HFT3 r3
      have hisz := items_size hT0 hT1 hT2 names hn args j
      by_cases hlt : j < args.length
      · obtain ⟨a', c', he, hta⟩ := hAT.ta
        simp only [Value.slice.injEq, true_and] at he
        obtain ⟨rfl, rfl⟩ := he
        obtain ⟨g, cur, rfl, hgr, hcur⟩ := hta ha0
        obtain ⟨k0, k1, k2, k3⟩ := hcur j hlt
        have c0 := cell_row (j := j * 4) hgr k0
        have c1 := cell_row (j := j * 4 + 1) hgr k1
        have c2 := cell_row (j := j * 4 + 2) hgr k2
        have c3 := cell_row (j := j * 4 + 3) hgr k3
        have b0 := cell_row (j := 0) hAT.r4 rfl
        have b1 := cell_row (j := 1) hAT.r4 rfl
        have b2 := cell_row (j := 2) hAT.r4 rfl
        have hR : R < wr.heap.size := (Array.getElem?_eq_some_iff.1 hAT.r4).1
        have hoj : OkName names args[j] := hoa _ (List.getElem_mem hlt)
        have HSN : Hid (items t0 t1 t2 names (args.take (j + 1)) = items t0 t1 t2 names (args.take j) ++ leaf t0 t1 t2 names args[j] ++ ⟨#[44]⟩) := by
          show _ = _
          rw [List.take_succ_eq_append_getElem hlt, items_snoc]
        have hlsz := leaf_size hT0 hT1 hT2 names hn args[j]
        have hasz : (acc1 ++ ⟨#[91]⟩ ++ items t0 t1 t2 names (args.take j)).size ≤ 900000010000 := by rw [ByteArray.size_append]; omega
        have HATX : Hid (AfterT L B b (wr.alloc (Obj.cells #[Value.int IntKind.i64 0, Value.int IntKind.i64 0, Value.string args[j], Value.slice none 0 0] 43)) p t0 t1 t2 n0 n1 n2 ms sv names R nk (.slice (some ⟨g, 0, none⟩) args.length ac) args (acc1 ++ ⟨#[91]⟩ ++ items t0 t1 t2 names (args.take j))) := hAT.below ((Below.refl _ wr).alloc (Nat.le_refl _) _)
        have HFX : Hid (Fr B b w (wr.alloc (Obj.cells #[Value.int IntKind.i64 0, Value.int IntKind.i64 0, Value.string args[j], Value.slice none 0 0] 43))) := hFT.trans (Fr.of ((Below.refl _ wr).alloc (Nat.le_refl _) _) hAT.env.hB)
        clear hAT hgr hcur k0 k1 k2 k3 hFT hta
        generalize args[j] = aj at *
        go_wp2_with fail
        have hcl := typ_leaf L B b (acc1 ++ ⟨#[91]⟩ ++ items t0 t1 t2 names (args.take j)) aj (wr.alloc (Obj.cells #[Value.int IntKind.i64 0, Value.int IntKind.i64 0, Value.string aj, Value.slice none 0 0] 43)) p t0 t1 t2 n0 n1 n2 ms sv names none 0 HATX.out.env hoj hn (by omega)
        refine hcl.mono ?_
        rintro e w4 ⟨rfl, hbd4, hf4⟩
        have hAT4 := HATX.out.wrote hf4 hbd4
        have hFT4 := HFX.out.trans hf4
        clear hcl HATX HFX
        have hs44 : (⟨#[44]⟩ : ByteArray).size = 1 := rfl
        go_wp2_with fail
        refine (write_any B b _ ⟨#[44]⟩ w4 hAT4.env.bd (by rw [ByteArray.size_append, hs44]; omega) hAT4.env.hB).mono ?_
        rintro e w5 ⟨rfl, hbd5, hf5⟩
        have hAT5 := hAT4.wrote hf5 hbd5
        go_wp2_with fail
        go_roundw
        case rel => exact ⟨j + 1, by omega, by go_num, by rw [HSN.out]; simpa [ByteArray.append_assoc] using hAT5, hFT4.trans hf5⟩
        case measure => simp [intOf]; omega
      · obtain rfl : j = args.length := by omega
        rw [List.take_length] at hAT hisz
        have hasz : (acc1 ++ ⟨#[91]⟩ ++ items t0 t1 t2 names args).size ≤ 2000000000000 := by rw [ByteArray.size_append]; omega
        have HAT : Hid (AfterT L B b wr p t0 t1 t2 n0 n1 n2 ms sv names R nk (.slice aa args.length ac) args (acc1 ++ ⟨#[91]⟩ ++ items t0 t1 t2 names args)) := hAT
        clear hAT
        go_wp2_with fail
        have hs93 : (⟨#[93]⟩ : ByteArray).size = 1 := rfl
        refine (write_any B b _ ⟨#[93]⟩ wr HAT.out.env.bd (by rw [hs93]; omega) HAT.out.env.hB).mono ?_
        rintro e w4 ⟨rfl, hbd4, hf4⟩
        go_wp2_with fail
        refine bodyPost_end (results_none rfl _ _ _) rfl ?_
        exact ⟨rfl, by rw [HNK.out, HACC.out]; exact hbd4, hFT.trans hf4⟩
end Go.Proofs.YbulkbmowDoor
