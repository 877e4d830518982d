/-
  numbering.typ, walked.
-/
import Derived.Test.YbulkbmowDoorBd
import Derived.Deep.RegionHeld3
import Derived.Deep.DeepCutAuto
namespace Go.Proofs.YbulkbmowDoor
open Go.RowKit Go

theorem Bd.row {B b : Nat} {acc : ByteArray} {w : World} (h : Bd B b acc w) : ∃ p v, w.heap[b]? = some (.cells #[p, v] 101 (0, 0)) := by
  rcases h with ⟨_, v, h, _⟩ | ⟨_, v, h, _⟩
  · exact ⟨_, v, h⟩
  · exact ⟨_, v, h⟩

theorem Bd.ne {B b k : Nat} {acc : ByteArray} {w : World} {o : Obj} (h : Bd B b acc w) (hk : w.heap[k]? = some o) (ho : ∀ c, o ≠ .cells c 101 (0, 0)) : k ≠ b := by
  rintro rfl
  obtain ⟨p, v, h1⟩ := h.row
  rw [h1] at hk
  exact ho _ (Option.some.inj hk).symm

theorem NumOK.off {w : World} {p : NBlk} {t0 t1 t2 n0 n1 n2 : Int} {ms : Value} {B b : Nat} {acc : ByteArray} (h : NumOK w p t0 t1 t2 n0 n1 n2 ms) (hb : Bd B b acc w) : p.off b :=
  ⟨hb.ne h.sh (by intro c; simp), hb.ne h.pg (by intro c; simp), hb.ne h.mt (by intro c; simp), hb.ne h.mn (by intro c; simp), hb.ne h.tb (by intro c; simp), hb.ne h.nb (by intro c; simp)⟩

theorem NumOK.fr {w w' : World} {p : NBlk} {t0 t1 t2 n0 n1 n2 : Int} {ms : Value} {B b : Nat} {acc : ByteArray} (h : NumOK w p t0 t1 t2 n0 n1 n2 ms) (hb : Bd B b acc w) (hf : Fr B b w w') : NumOK w' p t0 t1 t2 n0 n1 n2 ms := h.kept (h.off hb) hf.oth

/-- Names in scope. -/
def Scope (w : World) (sv : Value) (names : List ByteArray) : Prop :=
  ∃ a c, sv = .slice a names.length c ∧ (0 < names.length → ∃ g cur, a = some ⟨g, 0, none⟩ ∧ w.heap[g]? = some (.cells cur 9 (0, 0)) ∧ ∀ j (h : j < names.length), cur[j]? = some (.string names[j]))

theorem Scope.below {w w' : World} {sv : Value} {names : List ByteArray} (h : Scope w sv names) (hb : Below w.heap.size w w') : Scope w' sv names := by
  obtain ⟨a, c, h1, h2⟩ := h
  refine ⟨a, c, h1, fun hp => ?_⟩
  obtain ⟨g, cur, h3, h4, h5⟩ := h2 hp
  exact ⟨g, cur, h3, (hb.block g (Array.getElem?_eq_some_iff.1 h4).1).trans h4, h5⟩

theorem Scope.fr {w w' : World} {sv : Value} {names : List ByteArray} {B b : Nat} {acc : ByteArray} (h : Scope w sv names) (hb : Bd B b acc w) (hf : Fr B b w w') : Scope w' sv names := by
  obtain ⟨a, c, h1, h2⟩ := h
  refine ⟨a, c, h1, fun hp => ?_⟩
  obtain ⟨g, cur, h3, h4, h5⟩ := h2 hp
  exact ⟨g, cur, h3, hf.oth _ _ h4 (by simpa using hb.ne h4 (by intro c; simp)) (by intro c fz; simp), h5⟩

theorem index_any (sv : Value) (names : List ByteArray) (x : ByteArray) (w : World) (h : Scope w sv names) (hl : names.length ≤ 9223372036854775807) :
    Calls Ybad.prog 41 #[sv, .string x] w fun e w' => e = .returned (.int .i64 (Lib.idxOfS names x)) ∧ w' = w := by
  obtain ⟨a, c, rfl, h2⟩ := h
  by_cases hp : 0 < names.length
  · obtain ⟨g, cur, rfl, h4, h5⟩ := h2 hp
    have h := Ybad.slices_Index_string g 0 names.length c names x w (Nat.le_refl _) hl (fun j hj => by
      rw [Nat.zero_add, show w.cell? ⟨g, j, none⟩ = cur[j]? by simp [World.cell?, h4], h5 j hj]
      simp [List.getD, hj])
    rw [List.take_length] at h
    exact h
  · have e : names = [] := List.eq_nil_of_length_eq_zero (by omega)
    subst e
    exact Ybad.slices_Index_string_empty a c x w

def tn3 (t0 t1 t2 : Int) (k : Nat) : Int := if k = 0 then t0 else if k = 1 then t1 else t2
def nid (x : ByteArray) : Nat := if x = ⟨#[65]⟩ then 0 else if x = ⟨#[66]⟩ then 1 else 2

theorem nid_name (k : Nat) (h : k < 3) : nid (nameOf k) = k := by
  match k, h with
  | 0, _ => rfl
  | 1, _ => rfl
  | 2, _ => rfl

/-- What is written of a type without arguments. -/
def leaf (t0 t1 t2 : Int) (names : List ByteArray) (x : ByteArray) : ByteArray :=
  if 0 ≤ Lib.idxOfS names x then ⟨#[35]⟩ ++ num (Lib.idxOfS names x) else ⟨#[84]⟩ ++ num (tn3 t0 t1 t2 (nid x))

def tyV (x : ByteArray) (av : Value) : Value := .agg #[.int .i64 0, .int .i64 0, .string x, av]

def OkName (names : List ByteArray) (x : ByteArray) : Prop := 0 ≤ Lib.idxOfS names x ∨ ∃ k, k < 3 ∧ x = nameOf k

/-- All that typ needs. -/
structure Env (L B b : Nat) (acc : ByteArray) (w : World) (p : NBlk) (t0 t1 t2 n0 n1 n2 : Int) (ms sv : Value) (names : List ByteArray) : Prop where
  num : NumOK w p t0 t1 t2 n0 n1 n2 ms
  sc : Scope w sv names
  bd : Bd B b acc w
  tab : Tab L w
  hL : L ≤ B
  hB : B ≤ w.heap.size
  f0 : Fits t0
  f1 : Fits t1
  f2 : Fits t2

theorem Env.below {L B b : Nat} {acc : ByteArray} {w w' : World} {p : NBlk} {t0 t1 t2 n0 n1 n2 : Int} {ms sv : Value} {names : List ByteArray} (h : Env L B b acc w p t0 t1 t2 n0 n1 n2 ms sv names) (hb : Below w.heap.size w w') : Env L B b acc w' p t0 t1 t2 n0 n1 n2 ms sv names :=
  ⟨h.num.below hb, h.sc.below hb, h.bd.kept hb, h.tab.below hb (by have := h.hL; have := h.hB; omega), h.hL, by have := hb.size; have := h.hB; omega, h.f0, h.f1, h.f2⟩

theorem Env.wrote {L B b : Nat} {acc acc' : ByteArray} {w w' : World} {p : NBlk} {t0 t1 t2 n0 n1 n2 : Int} {ms sv : Value} {names : List ByteArray} (h : Env L B b acc w p t0 t1 t2 n0 n1 n2 ms sv names) (hf : Fr B b w w') (hbd : Bd B b acc' w') : Env L B b acc' w' p t0 t1 t2 n0 n1 n2 ms sv names :=
  ⟨h.num.fr h.bd hf, h.sc.fr h.bd hf, hbd, h.tab.below hf.bel h.hL, h.hL, by have := hf.bel.size; have := h.hB; omega, h.f0, h.f1, h.f2⟩

theorem idx_lo (x : ByteArray) : ∀ (zs : List ByteArray) (i : Nat), -1 ≤ Lib.idxFromS zs x i ∧ Lib.idxFromS zs x i ≤ (i + zs.length : Nat)
  | [], i => by simp [Lib.idxFromS]
  | z :: zs, i => by
    have := idx_lo x zs (i + 1)
    unfold Lib.idxFromS
    split
    · simp; omega
    · simp at this ⊢; omega

theorem cell_row {w : World} {b j : Nat} {c : Array Value} {t : TypeId} {fr : Nat × Nat} {v : Value} (h : w.heap[b]? = some (.cells c t fr)) (hj : c[j]? = some v) : w.cell? ⟨b, j, none⟩ = some v := by
  simp [World.cell?, h, hj]

theorem Fr.row {B b k : Nat} {acc : ByteArray} {w w' : World} {c : Array Value} {t : TypeId} {fr : Nat × Nat} (hf : Fr B b w w') (hb : Bd B b acc w) (h : w.heap[k]? = some (.cells c t fr)) (h1 : t ≠ 101) (h2 : t ≠ 5) : w'.heap[k]? = some (.cells c t fr) :=
  hf.oth _ _ h (by simpa using hb.ne h (by intro c' e; exact h1 (by injection e))) (by intro c' fz e; exact h2 (by injection e))

/-- The five cells that the drawn statement loads. -/
def Five (w : World) (R : Nat) (p : NBlk) (nk : ByteArray) (k : Nat) (tv : Int) : Prop :=
  w.cell? ⟨R, 0, none⟩ = some (.pointer (some ⟨p.sh, 0, none⟩)) ∧ w.cell? ⟨R, 1, none⟩ = some (.slice (some ⟨p.tb, 0, none⟩) 3 3) ∧ w.cell? ⟨R + 1, 2, none⟩ = some (.string nk) ∧ w.cell? ⟨p.sh, 1, none⟩ = some (.map (some p.mt)) ∧ w.cell? ⟨p.tb, k, none⟩ = some (.int .i64 tv)

theorem Five.below {w w' : World} {R : Nat} {p : NBlk} {nk : ByteArray} {k : Nat} {tv : Int} (h : Five w R p nk k tv) (hb : Below w.heap.size w w') : Five w' R p nk k tv := by
  obtain ⟨h0, h1, h2, h3, h4⟩ := h
  exact ⟨(hb.cell (World.block_lt_of_cell? w _ h0)).trans h0, (hb.cell (World.block_lt_of_cell? w _ h1)).trans h1, (hb.cell (World.block_lt_of_cell? w _ h2)).trans h2, (hb.cell (World.block_lt_of_cell? w _ h3)).trans h3, (hb.cell (World.block_lt_of_cell? w _ h4)).trans h4⟩

theorem five_of {w : World} {R k : Nat} {p : NBlk} {nk : ByteArray} {av : Value} {t0 t1 t2 n0 n1 n2 : Int} {ms : Value} (hk : k < 3) (hN : NumOK w p t0 t1 t2 n0 n1 n2 ms) (h4 : w.heap[R]? = some (Obj.cells #[Value.pointer (some { block := p.sh, off := 0 }), Value.slice (some { block := p.tb, off := 0 }) 3 3, Value.slice (some { block := p.nb, off := 0 }) 3 3] 75 (0, 0))) (h6 : w.heap[R + 1]? = some (Obj.cells #[Value.int IntKind.i64 0, Value.int IntKind.i64 0, Value.string nk, av] 43 (0, 0))) : Five w R p nk k (tn3 t0 t1 t2 k) := by
  refine ⟨cell_row (j := 0) h4 rfl, cell_row (j := 1) h4 rfl, cell_row (j := 2) h6 rfl, cell_row (j := 1) hN.sh rfl, ?_⟩
  match k, hk with
  | 0, _ => exact cell_row (j := 0) hN.tb rfl
  | 1, _ => exact cell_row (j := 1) hN.tb rfl
  | 2, _ => exact cell_row (j := 2) hN.tb rfl

theorem two_below (w : World) (o1 o2 : Obj) : Below w.heap.size w ((w.alloc o1).alloc o2) := ((Below.refl w.heap.size w).alloc (Nat.le_refl _) _).alloc (by simp) _
theorem two_rows (w : World) (o1 o2 : Obj) : ((w.alloc o1).alloc o2).heap[w.heap.size]? = some o1 ∧ ((w.alloc o1).alloc o2).heap[w.heap.size + 1]? = some o2 := by
  refine ⟨?_, ?_⟩
  · rw [heap_alloc_oldD _ _ (by simp), heap_alloc_newD]
  · have := heap_alloc_newD (w.alloc o1) o2
    simpa using this

set_option maxRecDepth 100000 in
set_option maxHeartbeats 1000000 in
theorem typ_leaf (L B b : Nat) (acc x : ByteArray) (w : World) (p : NBlk) (t0 t1 t2 n0 n1 n2 : Int) (ms sv : Value) (names : List ByteArray) (av : Option Addr) (ac : Nat) (h : Env L B b acc w p t0 t1 t2 n0 n1 n2 ms sv names) (hx : OkName names x) (hn : names.length ≤ 100) (hsz : acc.size ≤ 1000000000000) :
    Calls Ybad.prog 20 #[p.val, .pointer (some ⟨b, 0, none⟩), tyV x (.slice av 0 ac), sv] w fun e w' => e = .returned (.tuple #[]) ∧ Bd B b (acc ++ leaf t0 t1 t2 names x) w' ∧ Fr B b w w' := by
  have hlo : -1 ≤ Lib.idxOfS names x ∧ Lib.idxOfS names x ≤ (0 + names.length : Nat) := idx_lo x names 0
  unfold NBlk.val tyV
  have hX := h.below (two_below w (Obj.cells #[Value.pointer (some { block := p.sh, off := 0 }), Value.slice (some { block := p.tb, off := 0 }) 3 3, Value.slice (some { block := p.nb, off := 0 }) 3 3] 75) (Obj.cells #[Value.int IntKind.i64 0, Value.int IntKind.i64 0, Value.string x, Value.slice av 0 ac] 43))
  have hF : Fr B b w _ := Fr.of (two_below w (Obj.cells #[Value.pointer (some { block := p.sh, off := 0 }), Value.slice (some { block := p.tb, off := 0 }) 3 3, Value.slice (some { block := p.nb, off := 0 }) 3 3] 75) (Obj.cells #[Value.int IntKind.i64 0, Value.int IntKind.i64 0, Value.string x, Value.slice av 0 ac] 43)) h.hB
  obtain ⟨hr4, hr6⟩ := two_rows w (Obj.cells #[Value.pointer (some { block := p.sh, off := 0 }), Value.slice (some { block := p.tb, off := 0 }) 3 3, Value.slice (some { block := p.nb, off := 0 }) 3 3] 75) (Obj.cells #[Value.int IntKind.i64 0, Value.int IntKind.i64 0, Value.string x, Value.slice av 0 ac] 43)
  have HX : Hid (Env L B b acc _ p t0 t1 t2 n0 n1 n2 ms sv names) := hX
  have HF : Hid (Fr B b w _) := hF
  have HR4 : Hid (_ = some (Obj.cells #[Value.pointer (some { block := p.sh, off := 0 }), Value.slice (some { block := p.tb, off := 0 }) 3 3, Value.slice (some { block := p.nb, off := 0 }) 3 3] 75 (0, 0))) := hr4
  have HR6 : Hid (_ = some (Obj.cells #[Value.int IntKind.i64 0, Value.int IntKind.i64 0, Value.string x, Value.slice av 0 ac] 43 (0, 0))) := hr6
  clear hX hF hr4 hr6 h
  go_enter Ybad.func20, Ybad.ntmps20
  go_wp2_with fail
  generalize (w.alloc (Obj.cells #[Value.pointer (some { block := p.sh, off := 0 }), Value.slice (some { block := p.tb, off := 0 }) 3 3, Value.slice (some { block := p.nb, off := 0 }) 3 3] 75)).alloc (Obj.cells #[Value.int IntKind.i64 0, Value.int IntKind.i64 0, Value.string x, Value.slice av 0 ac] 43) = X at *
  generalize hR : w.heap.size = R at *
  refine (index_any sv names x X HX.out.sc (by omega)).mono ?_
  rintro e w0 ⟨rfl, rfl⟩
  by_cases h0 : 0 ≤ Lib.idxOfS names x
  · have HLF : Hid (leaf t0 t1 t2 names x = ⟨#[35]⟩ ++ num (Lib.idxOfS names x)) := by show _ = _; unfold leaf; rw [if_pos h0]
    have hnz := num_size (Lib.idxOfS names x) ⟨by omega, by omega⟩
    generalize Lib.idxOfS names x = q at *
    go_wp2_with fail
    refine (itoa_any L q ⟨by omega, by omega⟩ w0 HX.out.tab).mono ?_
    rintro e w1 ⟨rfl, hb1⟩
    have hE1 := HX.out.below hb1
    generalize num q = nq at *
    have hs1 : (⟨#[35]⟩ : ByteArray).size = 1 := rfl
    go_wp2_with fail
    refine (write_any B b acc _ w1 hE1.bd (by simp [ByteArray.size_append, hs1]; omega) hE1.hB).mono ?_
    rintro e w2 ⟨rfl, hbd2, hf2⟩
    go_wp2_with fail
    refine bodyPost_ret (v := .tuple #[]) (by simp [results, Ybad.results20, go_sem]) rfl ?_
    exact ⟨rfl, by rw [HLF.out]; exact hbd2, (HF.out.trans (Fr.of hb1 HX.out.hB)).trans hf2⟩
  · obtain ⟨k, hk, rfl⟩ : ∃ k, k < 3 ∧ x = nameOf k := by
      rcases hx with h | h
      · exact absurd h h0
      · exact h
    have HLF : Hid (leaf t0 t1 t2 names (nameOf k) = ⟨#[84]⟩ ++ num (tn3 t0 t1 t2 k)) := by show _ = _; unfold leaf; rw [if_neg h0, nid_name k hk]
    have hN := HX.out.num
    have a0 := cell_row (j := 0) HR4.out rfl
    have a1 := cell_row (j := 1) HR4.out rfl
    have a2 := cell_row (j := 2) HR4.out rfl
    have g2 := cell_row (j := 2) HR6.out rfl
    have g3 := cell_row (j := 3) HR6.out rfl
    have s1 := cell_row (j := 1) hN.sh rfl
    have tk : w0.cell? ⟨p.tb, k, none⟩ = some (.int .i64 (tn3 t0 t1 t2 k)) := by
      match k, hk with
      | 0, _ => exact cell_row (j := 0) hN.tb rfl
      | 1, _ => exact cell_row (j := 1) hN.tb rfl
      | 2, _ => exact cell_row (j := 2) hN.tb rfl
    have hlk : ∀ n, (Instr.lookup 95 (.map (some p.mt)) (.string (nameOf k)) false).run Ybad.prog (w0.drewN n) = .ok (.int .i64 k) (w0.drewN n) := fun n => by
      match k, hk with
      | 0, _ => exact look_ents (w0.drewN n) p.mt 65 66 67 _ 0 0 hN.mt rfl
      | 1, _ => exact look_ents (w0.drewN n) p.mt 65 66 67 _ 1 1 hN.mt rfl
      | 2, _ => exact look_ents (w0.drewN n) p.mt 65 66 67 _ 2 2 hN.mt rfl
    have hlk1 : (Instr.lookup 95 (.map (some p.mt)) (.string (nameOf k)) false).run Ybad.prog w0.drew = .ok (.int .i64 k) w0.drew := hlk 1
    have hfk : Fits (tn3 t0 t1 t2 k) := by
      have h1 := HX.out.f0
      have h2 := HX.out.f1
      have h3 := HX.out.f2
      unfold tn3
      split
      · exact h1
      · split
        · exact h2
        · exact h3
    have hnz := num_size (tn3 t0 t1 t2 k) hfk
    have HI : Hid (∀ W, Below w0.heap.size w0 W → Calls Ybad.prog 13 #[.int .i64 (tn3 t0 t1 t2 k)] W fun e w1 => e = .returned (.string (num (tn3 t0 t1 t2 k))) ∧ Below w0.heap.size w0 w1 ∧ Five w1 R p (nameOf k) k (tn3 t0 t1 t2 k)) := fun W hW => by
      have hE := HX.out.below hW
      refine (itoa_any L _ hfk W hE.tab).mono ?_
      rintro e w1 ⟨rfl, hb1⟩
      have hb := hW.trans (hb1.mono hW.size)
      exact ⟨rfl, hb, (five_of hk hN HR4.out HR6.out).below hb⟩
    have HW : Hid (∀ w1, Below w0.heap.size w0 w1 → Calls Ybad.prog 18 #[.pointer (some ⟨b, 0, none⟩), .string (⟨#[84]⟩ ++ num (tn3 t0 t1 t2 k))] w1 fun e w2 => e = .returned (.tuple #[.int .i64 (⟨#[84]⟩ ++ num (tn3 t0 t1 t2 k)).size, .nilIface]) ∧ Bd B b (acc ++ (⟨#[84]⟩ ++ num (tn3 t0 t1 t2 k))) w2 ∧ Fr B b w0 w2 ∧ w2.cell? ⟨R + 1, 3, none⟩ = some (.slice av 0 ac) ∧ Five w2 R p (nameOf k) k (tn3 t0 t1 t2 k)) := fun w1 hb => by
      have hE := HX.out.below hb
      have e4 := (hb.block _ (Array.getElem?_eq_some_iff.1 HR4.out).1).trans HR4.out
      have e6 := (hb.block _ (Array.getElem?_eq_some_iff.1 HR6.out).1).trans HR6.out
      refine (write_any B b acc _ w1 hE.bd (by rw [ByteArray.size_append]; have hs : (⟨#[84]⟩ : ByteArray).size = 1 := rfl; omega) hE.hB).mono ?_
      rintro e w2 ⟨rfl, hbd2, hf2⟩
      exact ⟨rfl, hbd2, (Fr.of hb HX.out.hB).trans hf2, cell_row (j := 3) (hf2.row hE.bd e6 (by decide) (by decide)) rfl, five_of hk (hE.num.fr hE.bd hf2) (hf2.row hE.bd e4 (by decide) (by decide)) (hf2.row hE.bd e6 (by decide) (by decide))⟩
    have j0 : (0 : Int) ≤ (k : Int) := by omega
    have j1 : (k : Int) < 3 := by omega
    have hs1 : (⟨#[84]⟩ : ByteArray).size = 1 := rfl
    generalize num (tn3 t0 t1 t2 k) = nt at *
    generalize tn3 t0 t1 t2 k = tv at *
    generalize hnk : nameOf k = nk at *
    have HNK : Hid (nameOf k = nk) := hnk
    clear hnk
    have hadd : ∀ W : World, (Op.stringOp .add ⟨#[84]⟩ nt).run Ybad.prog W = .ok (.string (⟨#[84]⟩ ++ nt)) W := fun W => run_string_add_sum W _ _ (by rw [hs1]; omega)
    have hcat : 1 + nt.size ≤ 9223372036854775807 := by omega
    go_wp2_with fail
    clear hN
    go_region_held3 (fun w' => w'.cell? ⟨R, 0, none⟩ = some (.pointer (some ⟨p.sh, 0, none⟩)) ∧ w'.cell? ⟨R, 1, none⟩ = some (.slice (some ⟨p.tb, 0, none⟩) 3 3) ∧ w'.cell? ⟨R + 1, 2, none⟩ = some (.string nk) ∧ w'.cell? ⟨p.sh, 1, none⟩ = some (.map (some p.mt)) ∧ w'.cell? ⟨p.tb, k, none⟩ = some (.int .i64 tv)) (go_keep) ((first | (go_at_call 13; refine (HI.out _ ?_).mono ?_; (exact ⟨rfl, rfl, rfl, Nat.le_refl _, fun _ _ => rfl⟩); rintro e w1 ⟨rfl, hb1, u0, u1, u2, u3, u4⟩) | (go_at_call 18; refine (HW.out w1 ?_).mono ?_; (exact hb1); rintro e w2 ⟨rfl, hbd2, hf2, y5, y0, y1, y2, y3, y4⟩)))
    go_wp2_with fail
    refine bodyPost_end (results_none rfl _ _ _) rfl ?_
    exact ⟨rfl, by rw [HNK.out, HLF.out]; exact hbd2, HF.out.trans hf2⟩
end Go.Proofs.YbulkbmowDoor
