/-
  numbering.typ, all told; numbering.typeParams; syntax.ParamNames.
-/
import Derived.Test.YbulkbmowDoorTyp2
namespace Go.Proofs.YbulkbmowDoor
open Go.RowKit Go

def tyText (t0 t1 t2 : Int) (names : List ByteArray) (x : ByteArray) (args : List ByteArray) : ByteArray :=
  if args = [] then leaf t0 t1 t2 names x else leaf t0 t1 t2 names x ++ ⟨#[91]⟩ ++ items t0 t1 t2 names args ++ ⟨#[93]⟩

def TyGood (names : List ByteArray) (x : ByteArray) (args : List ByteArray) : Prop :=
  OkName names x ∧ (∀ a ∈ args, OkName names a) ∧ (args ≠ [] → (∃ k, k < 3 ∧ x = nameOf k) ∧ ¬ 0 ≤ Lib.idxOfS names x) ∧ args.length ≤ 300

theorem typ_any (L B b : Nat) (acc x : ByteArray) (w : World) (p : NBlk) (t0 t1 t2 n0 n1 n2 : Int) (ms sv av : Value) (names args : List ByteArray) (hargs : TyArgs w av args) (hg : TyGood names x args) (h : Env L B b acc w p t0 t1 t2 n0 n1 n2 ms sv names) (hn : names.length ≤ 100) (hsz : acc.size ≤ 900000000000) :
    Calls Ybad.prog 20 #[p.val, .pointer (some ⟨b, 0, none⟩), tyV x av, sv] w fun e w' => e = .returned (.tuple #[]) ∧ Bd B b (acc ++ tyText t0 t1 t2 names x args) w' ∧ Fr B b w w' := by
  obtain ⟨g1, g2, g3, g4⟩ := hg
  by_cases he : args = []
  · subst he
    obtain ⟨a, c, rfl, _⟩ := hargs
    unfold tyText
    rw [if_pos rfl]
    exact typ_leaf L B b acc x w p t0 t1 t2 n0 n1 n2 ms sv names a c h g1 hn (by omega)
  · obtain ⟨hk, hi⟩ := g3 he
    have hargs' := hargs
    obtain ⟨a, c, rfl, _⟩ := hargs
    have hp : 0 < args.length := by
      cases args with
      | nil => exact absurd rfl he
      | cons _ _ => simp
    unfold tyText
    rw [if_neg he]
    refine (typ_args L B b acc x w p t0 t1 t2 n0 n1 n2 ms sv names a c args hargs' g2 hp g4 h hk hi hn hsz).mono ?_
    rintro e w' ⟨rfl, h1, h2⟩
    exact ⟨rfl, by simpa [ByteArray.append_assoc] using h1, h2⟩

theorem tyText_size {t0 t1 t2 : Int} (h0 : Fits t0) (h1 : Fits t1) (h2 : Fits t2) (names : List ByteArray) (hn : names.length ≤ 100) (x : ByteArray) (args : List ByteArray) (ha : args.length ≤ 300) : (tyText t0 t1 t2 names x args).size ≤ 7000 := by
  have e1 := leaf_size h0 h1 h2 names hn x
  have e2 := items_size h0 h1 h2 names hn args args.length
  rw [List.take_length] at e2
  unfold tyText
  split
  · omega
  · rw [ByteArray.size_append, ByteArray.size_append, ByteArray.size_append]
    have hs : (⟨#[91]⟩ : ByteArray).size = 1 := rfl
    have hs' : (⟨#[93]⟩ : ByteArray).size = 1 := rfl
    omega

/-- A row of type parameters: name and bound (a type without arguments). -/
def ParRow (w : World) (v : Value) (ps : List (ByteArray × ByteArray)) : Prop :=
  ∃ a c, v = .slice a ps.length c ∧ (0 < ps.length → ∃ g cur, a = some ⟨g, 0, none⟩ ∧ w.heap[g]? = some (.cells cur 47 (0, 0)) ∧ ∀ j (h : j < ps.length), cur[j * 7]? = some (.int .i64 0) ∧ cur[j * 7 + 1]? = some (.int .i64 0) ∧ cur[j * 7 + 2]? = some (.string ps[j].1) ∧ cur[j * 7 + 3]? = some (.int .i64 0) ∧ cur[j * 7 + 4]? = some (.int .i64 0) ∧ cur[j * 7 + 5]? = some (.string ps[j].2) ∧ cur[j * 7 + 6]? = some (.slice none 0 0))

theorem ParRow.below {w w' : World} {v : Value} {ps : List (ByteArray × ByteArray)} (h : ParRow w v ps) (hb : Below w.heap.size w w') : ParRow w' v ps := by
  obtain ⟨a, c, h1, h2⟩ := h
  refine ⟨a, c, h1, fun hp => ?_⟩
  obtain ⟨g, cur, h3, h4, h5⟩ := h2 hp
  exact ⟨g, cur, h3, (hb.block g (Array.getElem?_eq_some_iff.1 h4).1).trans h4, h5⟩

theorem ParRow.fr {w w' : World} {v : Value} {ps : List (ByteArray × ByteArray)} {B b : Nat} {acc : ByteArray} (h : ParRow w v ps) (hb : Bd B b acc w) (hf : Fr B b w w') : ParRow w' v ps := by
  obtain ⟨a, c, h1, h2⟩ := h
  refine ⟨a, c, h1, fun hp => ?_⟩
  obtain ⟨g, cur, h3, h4, h5⟩ := h2 hp
  exact ⟨g, cur, h3, hf.row hb h4 (by decide) (by decide), h5⟩

/-- Each text, each followed by a semicolon. -/
def semis (l : List ByteArray) : ByteArray := l.foldl (fun s a => s ++ a ++ ⟨#[59]⟩) ByteArray.empty
theorem semis_snoc (l : List ByteArray) (a : ByteArray) : semis (l ++ [a]) = semis l ++ a ++ ⟨#[59]⟩ := by
  unfold semis
  rw [List.foldl_append]
  rfl
theorem semis_size (l : List ByteArray) (m : Nat) (h : ∀ a ∈ l, a.size ≤ m) : ∀ n, (semis (l.take n)).size ≤ n * (m + 1) := by
  intro n
  induction n with
  | zero => simp [semis]
  | succ n ih =>
    by_cases hl : n < l.length
    · rw [List.take_succ_eq_append_getElem hl, semis_snoc, ByteArray.size_append, ByteArray.size_append, Nat.add_mul]
      have := h _ (List.getElem_mem hl)
      have hs : (⟨#[59]⟩ : ByteArray).size = 1 := rfl
      omega
    · rw [List.take_of_length_le (by omega), Nat.add_mul]
      rw [List.take_of_length_le (by omega)] at ih
      omega

set_option maxRecDepth 100000 in
set_option maxHeartbeats 1000000 in
theorem params_any (L B b : Nat) (acc : ByteArray) (w : World) (p : NBlk) (t0 t1 t2 n0 n1 n2 : Int) (ms sv pv : Value) (names : List ByteArray) (ps : List (ByteArray × ByteArray)) (hpr : ParRow w pv ps) (hg : ∀ q ∈ ps, OkName names q.2) (h : Env L B b acc w p t0 t1 t2 n0 n1 n2 ms sv names) (hn : names.length ≤ 100) (hl : ps.length ≤ 100) (hsz : acc.size ≤ 800000000000) :
    Calls Ybad.prog 19 #[p.val, .pointer (some ⟨b, 0, none⟩), pv, sv] w fun e w' => e = .returned (.tuple #[]) ∧ Bd B b (acc ++ ⟨#[60]⟩ ++ semis (ps.map fun q => leaf t0 t1 t2 names q.2) ++ ⟨#[62]⟩) w' ∧ Fr B b w w' := by
  have hbx := (Below.refl w.heap.size w).alloc (Nat.le_refl _) (Obj.cells #[Value.pointer (some { block := p.sh, off := 0 }), Value.slice (some { block := p.tb, off := 0 }) 3 3, Value.slice (some { block := p.nb, off := 0 }) 3 3] 75)
  have hX := h.below hbx
  have HPX : Hid (ParRow _ pv ps) := hpr.below hbx
  have HFX : Hid (Fr B b w _) := Fr.of hbx h.hB
  have HR4 : Hid (_ = some (Obj.cells #[Value.pointer (some { block := p.sh, off := 0 }), Value.slice (some { block := p.tb, off := 0 }) 3 3, Value.slice (some { block := p.nb, off := 0 }) 3 3] 75 (0, 0))) := heap_alloc_newD w (Obj.cells #[Value.pointer (some { block := p.sh, off := 0 }), Value.slice (some { block := p.tb, off := 0 }) 3 3, Value.slice (some { block := p.nb, off := 0 }) 3 3] 75)
  have HX : Hid (Env L B b acc _ p t0 t1 t2 n0 n1 n2 ms sv names) := hX
  have hT0 := h.f0
  have hT1 := h.f1
  have hT2 := h.f2
  obtain ⟨pa, pc, rfl, _⟩ := id hpr
  clear hX hbx hpr h
  unfold NBlk.val
  go_enter Ybad.func19, Ybad.ntmps19
  go_wp2_with fail
  generalize w.alloc (Obj.cells #[Value.pointer (some { block := p.sh, off := 0 }), Value.slice (some { block := p.tb, off := 0 }) 3 3, Value.slice (some { block := p.nb, off := 0 }) 3 3] 75) = X at *
  generalize hR : w.heap.size = R at *
  have hs60 : (⟨#[60]⟩ : ByteArray).size = 1 := rfl
  refine (write_any B b acc ⟨#[60]⟩ X HX.out.bd (by rw [hs60]; omega) HX.out.hB).mono ?_
  rintro e w1 ⟨rfl, hbd1, hf1⟩
  have hE1 := HX.out.wrote hf1 hbd1
  have hP1 := HPX.out.fr HX.out.bd hf1
  have hR1 := hf1.row HX.out.bd HR4.out (by decide) (by decide)
  have hF1 := HFX.out.trans hf1
  have hA1 : (acc ++ ⟨#[60]⟩).size ≤ 800000000001 := by rw [ByteArray.size_append, hs60]; omega
  clear HX HPX HR4 HFX hbd1 hf1
  have HST : Hid (Env L B b (acc ++ ⟨#[60]⟩) w1 p t0 t1 t2 n0 n1 n2 ms sv names ∧ ParRow w1 (.slice pa ps.length pc) ps ∧ w1.heap[R]? = some (Obj.cells #[Value.pointer (some { block := p.sh, off := 0 }), Value.slice (some { block := p.tb, off := 0 }) 3 3, Value.slice (some { block := p.nb, off := 0 }) 3 3] 75 (0, 0)) ∧ Fr B b w w1) := ⟨hE1, hP1, hR1, hF1⟩
  clear hE1 hP1 hR1 hF1
  generalize hac : acc ++ ⟨#[60]⟩ = acc1 at *
  have HAC : Hid (acc ++ ⟨#[60]⟩ = acc1) := hac
  clear hac
  go_wp2_with fail
  go_loopw [14] (fun i wr => ∃ j : Nat, j ≤ ps.length ∧ i = .int .i64 j ∧ Env L B b (acc1 ++ semis ((ps.map fun q => leaf t0 t1 t2 names q.2).take j)) wr p t0 t1 t2 n0 n1 n2 ms sv names ∧ ParRow wr (.slice pa ps.length pc) ps ∧ wr.heap[R]? = some (Obj.cells #[Value.pointer (some { block := p.sh, off := 0 }), Value.slice (some { block := p.tb, off := 0 }) 3 3, Value.slice (some { block := p.nb, off := 0 }) 3 3] 75 (0, 0)) ∧ Fr B b w wr) (fun i _ => ps.length - (intOf i).toNat)
  case atStart => exact ⟨0, Nat.zero_le _, rfl, by simpa [semis] using HST.out.1, HST.out.2⟩
  case round =>
    obtain ⟨j, hj, rfl, hE, hP, hRw, hF⟩ := hrel
    clear HST
    have hssz := semis_size (ps.map fun q => leaf t0 t1 t2 names q.2) 22 (fun a ha => by
      rw [List.mem_map] at ha
      obtain ⟨q, _, rfl⟩ := ha
      exact leaf_size hT0 hT1 hT2 names hn q.2) j
    have hasz : (acc1 ++ semis ((ps.map fun q => leaf t0 t1 t2 names q.2).take j)).size ≤ 800000010000 := by rw [ByteArray.size_append]; omega
    by_cases hlt : j < ps.length
    · obtain ⟨a', c', he, hta⟩ := id hP
      simp only [Value.slice.injEq, true_and] at he
      obtain ⟨rfl, rfl⟩ := he
      obtain ⟨g, cur, rfl, hgr, hcur⟩ := hta (by omega)
      obtain ⟨k0, k1, k2, k3, k4, k5, k6⟩ := hcur j hlt
      have c0 := cell_row (j := j * 7) hgr k0
      have c1 := cell_row (j := j * 7 + 1) hgr k1
      have c2 := cell_row (j := j * 7 + 2) hgr k2
      have c3 := cell_row (j := j * 7 + 3) hgr k3
      have c4 := cell_row (j := j * 7 + 4) hgr k4
      have c5 := cell_row (j := j * 7 + 5) hgr k5
      have c6 := cell_row (j := j * 7 + 6) hgr k6
      have b0 := cell_row (j := 0) hRw rfl
      have b1 := cell_row (j := 1) hRw rfl
      have b2 := cell_row (j := 2) hRw rfl
      have hRlt : R < wr.heap.size := (Array.getElem?_eq_some_iff.1 hRw).1
      have hoj : OkName names ps[j].2 := hg _ (List.getElem_mem hlt)
      have HSN : Hid (semis ((ps.map fun q => leaf t0 t1 t2 names q.2).take (j + 1)) = semis ((ps.map fun q => leaf t0 t1 t2 names q.2).take j) ++ leaf t0 t1 t2 names ps[j].2 ++ ⟨#[59]⟩) := by
        show _ = _
        rw [List.take_succ_eq_append_getElem (by simpa using hlt), semis_snoc]
        simp
      have hlsz := leaf_size hT0 hT1 hT2 names hn ps[j].2
      have HST : Hid (∀ o, Env L B b (acc1 ++ semis ((ps.map fun q => leaf t0 t1 t2 names q.2).take j)) (wr.alloc o) p t0 t1 t2 n0 n1 n2 ms sv names ∧ ParRow (wr.alloc o) (.slice (some ⟨g, 0, none⟩) ps.length pc) ps ∧ (wr.alloc o).heap[R]? = some (Obj.cells #[Value.pointer (some { block := p.sh, off := 0 }), Value.slice (some { block := p.tb, off := 0 }) 3 3, Value.slice (some { block := p.nb, off := 0 }) 3 3] 75 (0, 0)) ∧ Fr B b w (wr.alloc o)) := fun o => by
        have hbo := (Below.refl _ wr).alloc (Nat.le_refl _) o
        exact ⟨hE.below hbo, hP.below hbo, (hbo.block _ hRlt).trans hRw, hF.trans (Fr.of hbo hE.hB)⟩
      clear hE hP hRw hF hgr hcur k0 k1 k2 k3 k4 k5 k6 hta
      generalize ps[j].2 = bj at *
      generalize ps[j].1 = nj at *
      go_wp2_with fail
      obtain ⟨hE, hP, hRw, hF⟩ := HST.out (Obj.cells #[Value.int IntKind.i64 0, Value.int IntKind.i64 0, Value.string nj, Value.int IntKind.i64 0, Value.int IntKind.i64 0, Value.string bj, Value.slice none 0 0] 47)
      have hcl := typ_leaf L B b _ bj _ p t0 t1 t2 n0 n1 n2 ms sv names none 0 hE hoj hn (by omega)
      refine hcl.mono ?_
      rintro e w4 ⟨rfl, hbd4, hf4⟩
      have hE4 := hE.wrote hf4 hbd4
      have hP4 := hP.fr hE.bd hf4
      have hR4 := hf4.row hE.bd hRw (by decide) (by decide)
      have hF4 := hF.trans hf4
      clear hcl hE hP hRw hF HST hbd4 hf4
      have hs59 : (⟨#[59]⟩ : ByteArray).size = 1 := rfl
      go_wp2_with fail
      refine (write_any B b _ ⟨#[59]⟩ w4 hE4.bd (by rw [ByteArray.size_append, hs59]; omega) hE4.hB).mono ?_
      rintro e w5 ⟨rfl, hbd5, hf5⟩
      have hE5 := hE4.wrote hf5 hbd5
      go_wp2_with fail
      go_roundw
      case rel => exact ⟨j + 1, by omega, by go_num, by rw [HSN.out]; simpa [ByteArray.append_assoc] using hE5, hP4.fr hE4.bd hf5, hf5.row hE4.bd hR4 (by decide) (by decide), hF4.trans hf5⟩
      case measure => simp [intOf]; omega
    · obtain rfl : j = ps.length := by omega
      have e : (ps.map fun q => leaf t0 t1 t2 names q.2).take ps.length = ps.map fun q => leaf t0 t1 t2 names q.2 := List.take_of_length_le (by simp)
      rw [e] at hE hasz
      have HE : Hid (Env L B b (acc1 ++ semis (ps.map fun q => leaf t0 t1 t2 names q.2)) wr p t0 t1 t2 n0 n1 n2 ms sv names) := hE
      clear hE hP hRw
      have hs62 : (⟨#[62]⟩ : ByteArray).size = 1 := rfl
      go_wp2_with fail
      refine (write_any B b _ ⟨#[62]⟩ wr HE.out.bd (by rw [hs62]; omega) HE.out.hB).mono ?_
      rintro e w4 ⟨rfl, hbd4, hf4⟩
      go_wp2_with fail
      refine bodyPost_end (results_none rfl _ _ _) rfl ?_
      exact ⟨rfl, by rw [HAC.out]; exact hbd4, hF.trans hf4⟩
end Go.Proofs.YbulkbmowDoor
