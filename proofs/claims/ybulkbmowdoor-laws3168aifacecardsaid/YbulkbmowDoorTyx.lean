/-
  zzs3168aty, walked: a declared type.
-/
import Derived.Test.YbulkbmowDoorTyw
namespace Go.Proofs.YbulkbmowDoor
open Go.RowKit Go

theorem info43 : (Ybad.prog.info? 43).map (fun i => (i.zero, i.size, i.bytes)) = some (some (.agg #[.int .i64 0, .int .i64 0, .string ⟨#[]⟩, .slice none 0 0]), 4, 56) := by kernel_rfl

theorem drawn_nil (t0 t1 t2 : Int) (sel np : Nat) (hn : np ≤ 2) (h : isPar sel np = false) : drawn t0 t1 t2 sel np [] = ⟨#[84]⟩ ++ num (tn3 t0 t1 t2 (sel % 3)) := by
  have e1 : tyName sel np = nameOf (sel % 3) := by unfold tyName; rw [h]; rfl
  have e2 : tyArgs sel np [] = [] := by unfold tyArgs; rw [h]; rfl
  unfold drawn
  rw [e1, e2]
  unfold tyText
  rw [if_pos rfl, leaf_name t0 t1 t2 np _ hn (Nat.mod_lt _ (by omega))]

theorem flat_get {α : Type} (f : α → List Value) (m : Nat) (hf : ∀ x, (f x).length = m) : ∀ (l : List α) (j : Nat) (h : j < l.length) (i : Nat), i < m → (l.flatMap f)[j * m + i]? = (f l[j])[i]?
  | [], j, h, _, _ => by simp at h
  | x :: l, 0, _, i, hi => by
    rw [List.flatMap_cons, List.getElem?_append_left (by rw [hf]; omega)]
    simp
  | x :: l, j + 1, h, i, hi => by
    have e : (j + 1) * m + i = (f x).length + (j * m + i) := by rw [hf, Nat.add_mul]; omega
    rw [List.flatMap_cons, e, List.getElem?_append_right (by omega), Nat.add_sub_cancel_left]
    exact flat_get f m hf l j (by simpa using h) i hi

theorem flat_len {α : Type} (f : α → List Value) (m : Nat) (hf : ∀ x, (f x).length = m) : ∀ (l : List α), (l.flatMap f).length = l.length * m
  | [] => by simp
  | x :: l => by rw [List.flatMap_cons, List.length_append, hf, flat_len f m hf l, List.length_cons, Nat.add_mul]; omega

theorem take_cell {cur : Array Value} {n q : Nat} {xs : List Value} {v : Value} (h : cur.toList.take n = xs) (hq : xs[q]? = some v) : cur[q]? = some v := by
  have hlt : q < xs.length := (List.getElem?_eq_some_iff.1 hq).1
  rw [← h] at hq hlt
  rw [List.length_take] at hlt
  rw [List.getElem?_take_of_lt (by omega)] at hq
  simpa using hq

/-- A type's cells. -/
def tyCells (x : ByteArray) : List Value := [.int .i64 0, .int .i64 0, .string x, .slice none 0 0]

theorem tyArgs_own {w : World} {B : Nat} {v : Value} {xs : List ByteArray} (h : w.ownsRow B 43 4 v xs.length (xs.flatMap tyCells)) : TyArgs w v xs := by
  obtain ⟨_, ⟨rfl, hn⟩ | ⟨g, cap, cur, rfl, _, hg, _, _, _, ht⟩⟩ := h
  · exact ⟨none, 0, by rw [hn], fun hp => by omega⟩
  · refine ⟨_, cap, rfl, fun _ => ⟨g, cur, rfl, hg, fun j hj => ?_⟩⟩
    have e := fun i hi => flat_get tyCells 4 (fun _ => rfl) xs j hj i hi
    exact ⟨take_cell ht (by rw [show j * 4 = j * 4 + 0 from rfl, e 0 (by omega)]; rfl), take_cell ht (by rw [e 1 (by omega)]; rfl), take_cell ht (by rw [e 2 (by omega)]; rfl), take_cell ht (by rw [e 3 (by omega)]; rfl)⟩

theorem tn_cell {W : World} {R k : Nat} {t0 t1 t2 : Int} (hk : k < 3) (hW : W.heap[R]? = some (Obj.cells #[Value.int IntKind.i64 t0, Value.int IntKind.i64 t1, Value.int IntKind.i64 t2] 30 (0, 0))) : W.cell? ⟨R, k, none⟩ = some (.int .i64 (tn3 t0 t1 t2 k)) := by
  match k, hk with
  | 0, _ => exact cell_row (j := 0) hW rfl
  | 1, _ => exact cell_row (j := 1) hW rfl
  | 2, _ => exact cell_row (j := 2) hW rfl

/-- What lives in the loop over the arguments. -/
structure TySt (R Q T : Nat) (w wr : World) (nk : ByteArray) (t0 t1 t2 : Int) (v : Value) (j : Nat) (xs : List Value) : Prop where
  own : wr.ownsRow T 43 4 v j xs
  q : wr.heap[Q]? = some (.cells #[.int .i64 0, .int .i64 0, .string nk, v] 43 (0, 0))
  r : wr.heap[R]? = some (.cells #[.int .i64 t0, .int .i64 t1, .int .i64 t2] 30 (0, 0))
  r1 : wr.heap[R + 1]? = some (.cells #[.int .i64 0, .int .i64 0, .string ⟨#[]⟩, .slice none 0 0] 43 (0, 0))
  b : Below R w wr
  o1 : R + 1 < Q
  o2 : Q < T
  o3 : T ≤ wr.heap.size

variable {R Q T j n : Nat} {w wr w2 : World} {nk : ByteArray} {t0 t1 t2 : Int} {v nv : Value} {xs news : List Value} {o : Obj}

theorem TySt.ne (h : TySt R Q T w wr nk t0 t1 t2 v j xs) {k : Nat} (hk : k < T) : some k ≠ v.ownBlock := by
  intro e
  have := (h.own.lt k e.symm).1
  omega

theorem TySt.old (h : TySt R Q T w wr nk t0 t1 t2 v j xs) (hg : (wr.alloc o).grownBy w2 v.ownBlock) {k : Nat} (hk : k < T) : w2.heap[k]? = wr.heap[k]? := by
  have := h.o3
  rw [hg.block k (by simp; omega) (h.ne hk), heap_alloc_oldD _ _ (by omega)]

theorem TySt.next (h : TySt R Q T w wr nk t0 t1 t2 v j xs) (hg : (wr.alloc o).grownBy w2 v.ownBlock) (hown : w2.ownsRow T 43 4 nv n (xs ++ news)) : TySt R Q T w (w2.setCell ⟨Q, 3, none⟩ nv) nk t0 t1 t2 nv n (xs ++ news) := by
  have h1 := h.o1
  have h2 := h.o2
  have h3 := h.o3
  have hsz : wr.heap.size + 1 ≤ w2.heap.size := by have := hg.size; simpa using this
  have eb := fun k (hk : k < T) => h.old hg hk
  refine ⟨ownsRow_setCell_below hown h2 nv, ?_, ?_, ?_, ?_, h1, h2, ?_⟩
  · rw [setCell_row w2 Q 3 _ 43 nv ((eb Q h2).trans h.q)]; rfl
  · rw [Below.heap_setCell _ _ _ _ (by show R ≠ Q; omega)]; exact (eb R (by omega)).trans h.r
  · rw [Below.heap_setCell _ _ _ _ (by show R + 1 ≠ Q; omega)]; exact (eb _ (by omega)).trans h.r1
  · refine ((h.b.alloc (by omega) o).grown hg (by simp; omega) (fun k hk => ?_)).setCell (by show R ≤ Q; omega) nv
    have := (h.own.lt k hk).1
    omega
  · rw [World.size_setCell]; omega

theorem TySt.below (h : TySt R Q T w wr nk t0 t1 t2 v j xs) (hb : Below wr.heap.size wr w2) : TySt R Q T w w2 nk t0 t1 t2 v j xs := by
  have h1 := h.o1
  have h2 := h.o2
  have h3 := h.o3
  refine ⟨h.own.kept (grown_none hb) ?_, (hb.block _ (by omega)).trans h.q, (hb.block _ (by omega)).trans h.r, (hb.block _ (by omega)).trans h.r1, h.b.trans (hb.mono (by omega)), h1, h2, by have := hb.size; omega⟩
  cases v.ownBlock with
  | none => exact .inl rfl
  | some g => exact .inr (by simp)

theorem drawn_some (t0 t1 t2 : Int) (sel np : Nat) (args : List Nat) (hn : np ≤ 2) (h : isPar sel np = false) (ha : 0 < args.length) : drawn t0 t1 t2 sel np args = ⟨#[84]⟩ ++ num (tn3 t0 t1 t2 (sel % 3)) ++ ⟨#[91]⟩ ++ items t0 t1 t2 (scopeOf np) (args.map fun a => nameOf (a % 3)) ++ ⟨#[93]⟩ := by
  have e1 : tyName sel np = nameOf (sel % 3) := by unfold tyName; rw [h]; rfl
  have e2 : tyArgs sel np args = args.map fun a => nameOf (a % 3) := by unfold tyArgs; rw [h]; rfl
  unfold drawn
  rw [e1, e2]
  unfold tyText
  rw [if_neg (by intro e; rw [List.map_eq_nil_iff] at e; subst e; simp at ha), leaf_name t0 t1 t2 np _ hn (Nat.mod_lt _ (by omega))]

set_option maxRecDepth 100000 in
set_option maxHeartbeats 1000000 in
theorem ty_nam (L sel np : Nat) (av : Value) (args : List Nat) (w : World) (t0 t1 t2 : Int) (hs : sel < 256) (hn : np ≤ 2) (ht : Tab L w) (hL : L ≤ w.heap.size) (f0 : Fits t0) (f1 : Fits t1) (f2 : Fits t2) (hargs : U8Row w av args) (hal : args.length ≤ 300) (h : isPar sel np = false) :
    Calls Ybad.prog 6 #[.int .u8 sel, av, .int .i64 np, .agg #[.int .i64 t0, .int .i64 t1, .int .i64 t2]] w fun e w' => ∃ av', e = .returned (.tuple #[tyV (nameOf (sel % 3)) av', .string (drawn t0 t1 t2 sel np args)]) ∧ TyArgs w' av' (args.map fun a => nameOf (a % 3)) ∧ (args = [] → av' = .slice none 0 0) ∧ Below w.heap.size w w' := by
  have hd : ¬ (3 ≤ sel % 5 ∧ sel % 5 - 3 < np) := of_decide_eq_false h
  have hbx := two_below w (Obj.cells #[Value.int IntKind.i64 t0, Value.int IntKind.i64 t1, Value.int IntKind.i64 t2] 30) (Obj.cells #[Value.int IntKind.i64 0, Value.int IntKind.i64 0, Value.string ⟨#[]⟩, Value.slice none 0 0] 43)
  obtain ⟨s, hs5⟩ : ∃ s, sel % 5 = s := ⟨_, rfl⟩
  obtain ⟨k, hk3⟩ : ∃ k, sel % 3 = k := ⟨_, rfl⟩
  have hk : k < 3 := by omega
  have h5 : (sel : Int) % 5 = (s : Int) := by omega
  have h3 : (sel : Int) % 3 = (k : Int) := by omega
  have hsl : s < 5 := by omega
  have HNIL : Hid (drawn t0 t1 t2 sel np [] = ⟨#[84]⟩ ++ num (tn3 t0 t1 t2 k)) := by rw [← hk3]; exact drawn_nil t0 t1 t2 sel np hn h
  have HSOM : Hid (0 < args.length → drawn t0 t1 t2 sel np args = ⟨#[84]⟩ ++ num (tn3 t0 t1 t2 k) ++ ⟨#[91]⟩ ++ items t0 t1 t2 (scopeOf np) (args.map fun a => nameOf (a % 3)) ++ ⟨#[93]⟩) := fun ha => by rw [← hk3]; exact drawn_some t0 t1 t2 sel np args hn h ha
  have hscl : (scopeOf np).length ≤ 100 := by unfold scopeOf; simp; omega
  obtain ⟨i43, hi43, hz43, hs43, hb43⟩ := info_parts info43
  rw [hk3]
  obtain ⟨hr7, hr8⟩ := two_rows w (Obj.cells #[Value.int IntKind.i64 t0, Value.int IntKind.i64 t1, Value.int IntKind.i64 t2] 30) (Obj.cells #[Value.int IntKind.i64 0, Value.int IntKind.i64 0, Value.string ⟨#[]⟩, Value.slice none 0 0] 43)
  have HB0 : Hid (Below w.heap.size w _) := hbx
  have HR7 : Hid (_ = some (Obj.cells #[Value.int IntKind.i64 t0, Value.int IntKind.i64 t1, Value.int IntKind.i64 t2] 30 (0, 0))) := hr7
  have HR8 : Hid (_ = some (Obj.cells #[Value.int IntKind.i64 0, Value.int IntKind.i64 0, Value.string ⟨#[]⟩, Value.slice none 0 0] 43 (0, 0))) := hr8
  have HT : Hid (Tab L _) := ht.below hbx hL
  obtain ⟨aa, ac, rfl, h256, hrow⟩ := hargs
  have HROW : Hid (0 < args.length → ∃ g o, aa = some ⟨g, o, none⟩ ∧ ∀ j (h : j < args.length), w.cell? ⟨g, o + j, none⟩ = some (.int .u8 args[j])) := hrow
  clear hbx h hr7 hr8 hrow
  have hkf := fits_tn f0 f1 f2 k
  have hnz := num_size (tn3 t0 t1 t2 k) hkf
  have HTK : Hid (∀ W : World, W.heap[w.heap.size]? = some (Obj.cells #[Value.int IntKind.i64 t0, Value.int IntKind.i64 t1, Value.int IntKind.i64 t2] 30 (0, 0)) → W.cell? ⟨w.heap.size, k, none⟩ = some (.int .i64 (tn3 t0 t1 t2 k))) := fun W hW => by
    match k, hk with
    | 0, _ => exact cell_row (j := 0) hW rfl
    | 1, _ => exact cell_row (j := 1) hW rfl
    | 2, _ => exact cell_row (j := 2) hW rfl
  have hcase : ((3 : Int) ≤ (s : Int) ∧ ¬ ((s : Int) - 3 < (np : Int))) ∨ ¬ ((3 : Int) ≤ (s : Int)) := by omega
  have j0 : (0 : Int) ≤ (k : Int) := by omega
  have j1 : (k : Int) < 3 := by omega
  rcases hcase with ⟨hge', hnp⟩ | hge'
  all_goals
    go_enter Ybad.func6, Ybad.ntmps6
    go_wp2_with fail
    generalize (w.alloc (Obj.cells #[Value.int IntKind.i64 t0, Value.int IntKind.i64 t1, Value.int IntKind.i64 t2] 30)).alloc (Obj.cells #[Value.int IntKind.i64 0, Value.int IntKind.i64 0, Value.string ⟨#[]⟩, Value.slice none 0 0] 43) = X at *
    generalize hR : w.heap.size = R at *
    refine (name_any k hk X).mono ?_
    rintro e w0 ⟨rfl, rfl⟩
    have x7 := HTK.out X HR7.out
    have hRX : R < X.heap.size := (Array.getElem?_eq_some_iff.1 HR7.out).1
    go_wp2_with fail
    have hbo := (Below.refl _ X).alloc (Nat.le_refl _) (Obj.cells #[Value.int IntKind.i64 0, Value.int IntKind.i64 0, Value.string (nameOf k), Value.slice none 0 0] 43)
    have hr12 := heap_alloc_newD X (Obj.cells #[Value.int IntKind.i64 0, Value.int IntKind.i64 0, Value.string (nameOf k), Value.slice none 0 0] 43)
    refine (itoa_any L (tn3 t0 t1 t2 k) hkf _ (HT.out.below hbo (by have := HB0.out.size; omega))).mono ?_
    rintro e w1 ⟨rfl, hb1⟩
    have hbX : Below X.heap.size X w1 := hbo.trans (hb1.mono (by have := hbo.size; omega))
    have h12 := (hb1.block _ (Array.getElem?_eq_some_iff.1 hr12).1).trans hr12
    have h7 := (hbX.block _ hRX).trans HR7.out
    have h8 := (hbX.block _ (Array.getElem?_eq_some_iff.1 HR8.out).1).trans HR8.out
    have hbw : Below R w w1 := HB0.out.trans (hbX.mono (by omega))
    have hR8X : R + 1 < X.heap.size := (Array.getElem?_eq_some_iff.1 HR8.out).1
    clear hbo hr12 hb1 hbX x7 HR7 HR8 HB0 HT
    have hXQ : R + 1 < X.heap.size := hR8X
    generalize X.heap.size = Q at *
    have hs1 : (⟨#[84]⟩ : ByteArray).size = 1 := rfl
    have a0 := cell_row (j := 0) h8 rfl
    have a1 := cell_row (j := 1) h8 rfl
    have a2 := cell_row (j := 2) h8 rfl
    have a3 := cell_row (j := 3) h8 rfl
    have af : ∀ j, w1.frozen? ⟨R + 1, j, none⟩ = false := fun j => by simp [World.frozen?, h8]
    have b0 := cell_row (j := 0) h12 rfl
    have b1 := cell_row (j := 1) h12 rfl
    have b2 := cell_row (j := 2) h12 rfl
    have b3 := cell_row (j := 3) h12 rfl
    generalize num (tn3 t0 t1 t2 k) = nt at *
    by_cases hz : args.length = 0
    · have hz' : ¬ ((0 : Int) < (args.length : Int)) := by omega
      go_wp2_with fail
      refine bodyPost_ret (v := .tuple #[tyV (nameOf k) (.slice none 0 0), .string (⟨#[84]⟩ ++ nt)]) (by simp [results, Ybad.results6, go_sem, a0, a1, a2, a3, tyV]) rfl ?_
      obtain rfl : args = [] := List.eq_nil_of_length_eq_zero hz
      refine ⟨.slice none 0 0, by rw [HNIL.out], ⟨none, 0, rfl, fun h => by simp at h⟩, fun _ => rfl, ?_⟩
      rw [hR]
      exact (((hbw.setCell (by show R ≤ R + 1; omega) _).setCell (by show R ≤ R + 1; omega) _).setCell (by show R ≤ R + 1; omega) _).setCell (by show R ≤ R + 1; omega) _
    · have hz' : (0 : Int) < (args.length : Int) := by omega
      obtain ⟨g, o, rfl, hcell⟩ := HROW.out (by omega)
      have HCELL : Hid (∀ j (h : j < args.length), w.cell? ⟨g, o + j, none⟩ = some (.int .u8 args[j])) := hcell
      have hgR : g < R := by rw [← hR]; exact World.block_lt_of_cell? w _ (hcell 0 (by omega))
      have HTY : Hid (TySt R Q w1.heap.size w w1 (nameOf k) t0 t1 t2 (.slice none 0 0) 0 []) := ⟨World.ownsRow_nil _ _ _ _, h12, h7, h8, hbw, hXQ, (Array.getElem?_eq_some_iff.1 h12).1, Nat.le_refl _⟩
      have HT1 : Hid (Tab L w1) := ht.below hbw (by omega)
      have hs91 : (⟨#[91]⟩ : ByteArray).size = 1 := rfl
      have hs93 : (⟨#[93]⟩ : ByteArray).size = 1 := rfl
      have hs44 : (⟨#[44]⟩ : ByteArray).size = 1 := rfl
      clear hcell HROW h7 h8 h12 hbw a0 a1 a2 a3 af b0 b1 b2 b3 HTK
      have hpz : (⟨#[84]⟩ ++ nt ++ ⟨#[91]⟩ : ByteArray).size ≤ 23 := by rw [ByteArray.size_append, ByteArray.size_append]; omega
      have hdt : decide (0 < args.length) = true := decide_eq_true (by omega)
      go_wp2_with fail
      generalize hpre : (⟨#[84]⟩ ++ nt ++ ⟨#[91]⟩ : ByteArray) = pre at *
      have HPRE : Hid ((⟨#[84]⟩ ++ nt ++ ⟨#[91]⟩ : ByteArray) = pre) := hpre
      clear hpre
      generalize hT : w1.heap.size = T at *
      generalize hnk : nameOf k = nk at *
      go_loopw [13, 54] (fun tx i wr => ∃ j : Nat, j ≤ args.length ∧ i = .int .i64 j ∧ tx = .string (pre ++ items t0 t1 t2 (scopeOf np) ((args.map fun a => nameOf (a % 3)).take j)) ∧ ∃ v, TySt R Q T w wr nk t0 t1 t2 v j (((args.map fun a => nameOf (a % 3)).take j).flatMap tyCells) ∧ Below Q w1 wr) (fun _ i _ => args.length - (intOf i).toNat)
      case atStart => exact ⟨0, Nat.zero_le _, rfl, by simp [items], _, by simpa using HTY.out, Below.refl _ _⟩
      case round =>
        obtain ⟨j, hj, rfl, rfl, v, hty, hbT⟩ := hrel
        clear HTY
        have hisz := items_size f0 f1 f2 (scopeOf np) hscl (args.map fun a => nameOf (a % 3)) j
        have hasz : (pre ++ items t0 t1 t2 (scopeOf np) ((args.map fun a => nameOf (a % 3)).take j)).size ≤ 10000 := by rw [ByteArray.size_append]; omega
        by_cases hlt : j < args.length
        · have hwz : w.heap.size ≤ R := by omega
          obtain ⟨k2, hk2⟩ : ∃ k2, args[j] % 3 = k2 := ⟨_, rfl⟩
          have hk2l : k2 < 3 := by omega
          have hm3 : ((args[j] : Nat) : Int) % 3 = (k2 : Int) := by omega
          have ha256 := h256 _ (List.getElem_mem hlt)
          have cj : wr.cell? ⟨g, o + j, none⟩ = some (.int .u8 args[j]) := (hty.b.cell (p := ⟨g, o + j, none⟩) hgR).trans (HCELL.out j hlt)
          have HSN : Hid (items t0 t1 t2 (scopeOf np) ((args.map fun a => nameOf (a % 3)).take (j + 1)) = items t0 t1 t2 (scopeOf np) ((args.map fun a => nameOf (a % 3)).take j) ++ (⟨#[84]⟩ ++ num (tn3 t0 t1 t2 k2)) ++ ⟨#[44]⟩) := by
            show _ = _
            rw [List.take_succ_eq_append_getElem (by simpa using hlt), items_snoc]
            rw [List.getElem_map, hk2, leaf_name t0 t1 t2 np k2 hn hk2l]
          have HFL : Hid (((args.map fun a => nameOf (a % 3)).take (j + 1)).flatMap tyCells = ((args.map fun a => nameOf (a % 3)).take j).flatMap tyCells ++ tyCells (nameOf k2)) := by
            show _ = _
            rw [List.take_succ_eq_append_getElem (by simpa using hlt), List.flatMap_append, List.getElem_map, hk2]
            simp
          have x3 := cell_row (j := 3) hty.q rfl
          have xf : ∀ j, wr.frozen? ⟨Q, j, none⟩ = false := fun j => by simp [World.frozen?, hty.q]
          have o1 := hty.o1
          have o2 := hty.o2
          have o3 := hty.o3
          have hf2 := fits_tn f0 f1 f2 k2
          have hnz2 := num_size (tn3 t0 t1 t2 k2) hf2
          have i0 : (0 : Int) ≤ (k2 : Int) := by omega
          have i1 : (k2 : Int) < 3 := by omega
          have hQs : Q < wr.heap.size := by omega
          have HTYJ : Hid (TySt R Q T w wr nk t0 t1 t2 v j (((args.map fun a => nameOf (a % 3)).take j).flatMap tyCells)) := hty
          clear hty
          generalize ((args.map fun a => nameOf (a % 3)).take j).flatMap tyCells = xs at *
          generalize items t0 t1 t2 (scopeOf np) ((args.map fun a => nameOf (a % 3)).take j) = itx at *
          generalize args[j] = aj at *
          go_wp2_with fail
          go_cut [] (fun wc => ∃ v', TySt R Q T w wc nk t0 t1 t2 v' (j + 1) (xs ++ tyCells (nameOf k2)) ∧ Below Q w1 wc)
          case first =>
            go_region_law (first | (refine step_append_lies _ (by rfl) (.tmp 62) (.tmp 66) 41 (by rfl) T 43 i43 _ 4 56 Ybad.underlying41 hi43 hz43 hs43 hb43 (by rfl) (by decide) v j xs (by rfl) (by exact HTYJ.out.own.alloc _) _ 1 1 (tyCells (nameOf k2)) (by rfl) (by rfl) (by exact World.news_of_block (cs := #[Value.int IntKind.i64 0, Value.int IntKind.i64 0, Value.string (nameOf k2), Value.slice none 0 0]) (heap_alloc_newD wr _)) (by intro u hu; simp [tyCells] at hu; rcases hu with rfl | rfl | rfl <;> rfl) (by decide) (by unfold maxLen; omega) (by omega) (by simp; omega) _ rfl ?_; intro g5 cap5 w2 hown5 hgrow5 hat5 hlt5; have hq5 := (HTYJ.out.old (o := .cells #[Value.int IntKind.i64 0, Value.int IntKind.i64 0, Value.string (nameOf k2), Value.slice none 0 0] 43) ⟨hgrow5.os, hgrow5.tape, hgrow5.output, hgrow5.size, hgrow5.block⟩ o2).trans HTYJ.out.q; have x35 := cell_row (j := 3) hq5 rfl; have xf5 : ∀ j, w2.frozen? ⟨Q, j, none⟩ = false := fun j => by simp [World.frozen?, hq5]) | (go_simp; go_at_call 5; refine (name_any k2 hk2l _).mono ?_; rintro e w1' ⟨rfl, rfl⟩))
            all_goals go_wp2_with fail
            all_goals go_meet
            all_goals (case rel => exact ⟨_, HTYJ.out.next (o := .cells #[Value.int IntKind.i64 0, Value.int IntKind.i64 0, Value.string (nameOf k2), Value.slice none 0 0] 43) ⟨hgrow5.os, hgrow5.tape, hgrow5.output, hgrow5.size, hgrow5.block⟩ hown5, ((hbT.alloc (by omega) _).grown (w := wr.alloc (.cells #[Value.int IntKind.i64 0, Value.int IntKind.i64 0, Value.string (nameOf k2), Value.slice none 0 0] 43)) ⟨hgrow5.os, hgrow5.tape, hgrow5.output, hgrow5.size, hgrow5.block⟩ (by simp; omega) (fun k hk => Nat.le_trans (Nat.le_of_lt o2) (HTYJ.out.own.lt k hk).1)).setCell (Nat.le_refl _) _⟩)
          case rest =>
            obtain ⟨v', hty', hbT'⟩ := hcut
            have xk := tn_cell hk2l hty'.r
            have hTc : Tab L wc := HT1.out.below hbT' (by omega)
            have HTYC : Hid (TySt R Q T w wc nk t0 t1 t2 v' (j + 1) (xs ++ tyCells (nameOf k2))) := hty'
            clear HTYJ hty' x3 xf cj
            go_wp2_with fail
            refine (itoa_any L _ hf2 wc hTc).mono ?_
            rintro e w4 ⟨rfl, hb4⟩
            generalize num (tn3 t0 t1 t2 k2) = nt2 at *
            have hsum : (⟨#[84]⟩ ++ nt2 ++ ⟨#[44]⟩ : ByteArray).size ≤ 23 := by rw [ByteArray.size_append, ByteArray.size_append]; omega
            go_wp2_with fail
            go_roundw
            case rel => exact ⟨j + 1, by omega, by go_num, by rw [HSN.out]; simp [ByteArray.append_assoc], v', by rw [HFL.out]; exact HTYC.out.below hb4, hbT'.trans (hb4.mono (by have := HTYC.out.o3; omega))⟩
            case measure => simp [intOf]; omega
        · obtain rfl : j = args.length := by omega
          have et : (args.map fun a => nameOf (a % 3)).take args.length = args.map fun a => nameOf (a % 3) := List.take_of_length_le (by simp)
          rw [et] at hty hasz
          have hta : TyArgs wr v (args.map fun a => nameOf (a % 3)) := tyArgs_own (B := T) (by simpa using hty.own)
          obtain ⟨va, vc, rfl, _⟩ := id hta
          rw [List.length_map] at hty hta
          have q0 := cell_row (j := 0) hty.q rfl
          have q1 := cell_row (j := 1) hty.q rfl
          have q2 := cell_row (j := 2) hty.q rfl
          have q3 := cell_row (j := 3) hty.q rfl
          have a0 := cell_row (j := 0) hty.r1 rfl
          have a1 := cell_row (j := 1) hty.r1 rfl
          have a2 := cell_row (j := 2) hty.r1 rfl
          have a3 := cell_row (j := 3) hty.r1 rfl
          have af : ∀ j, wr.frozen? ⟨R + 1, j, none⟩ = false := fun j => by simp [World.frozen?, hty.r1]
          have HTYC : Hid (TySt R Q T w wr nk t0 t1 t2 (.slice va args.length vc) args.length ((args.map fun a => nameOf (a % 3)).flatMap tyCells)) := hty
          clear hta hty
          rw [et]
          generalize hitx : items t0 t1 t2 (scopeOf np) (args.map fun a => nameOf (a % 3)) = itx at *
          clear hitx
          go_wp2_with fail
          refine bodyPost_ret (v := .tuple #[tyV nk (.slice va args.length vc), .string (pre ++ itx ++ ⟨#[93]⟩)]) (by simp [results, Ybad.results6, go_sem, a0, a1, a2, a3, tyV]) rfl ?_
          refine ⟨.slice va args.length vc, by rw [HSOM.out (by omega), hnk], ?_, fun h => by subst h; simp at hz, ?_⟩
          · have hlt' : R + 1 < T := by have := HTYC.out.o1; have := HTYC.out.o2; omega
            have ho := ownsRow_setCell_below (a := ⟨R + 1, 3, none⟩) (ownsRow_setCell_below (a := ⟨R + 1, 2, none⟩) (ownsRow_setCell_below (a := ⟨R + 1, 1, none⟩) (ownsRow_setCell_below (a := ⟨R + 1, 0, none⟩) HTYC.out.own hlt' (.int .i64 0)) hlt' (.int .i64 0)) hlt' (.string nk)) hlt' (.slice va args.length vc)
            exact tyArgs_own (B := T) (by simpa using ho)
          · rw [hR]
            exact (((HTYC.out.b.setCell (by show R ≤ R + 1; omega) _).setCell (by show R ≤ R + 1; omega) _).setCell (by show R ≤ R + 1; omega) _).setCell (by show R ≤ R + 1; omega) _

theorem ty_any (L sel np : Nat) (av : Value) (args : List Nat) (w : World) (t0 t1 t2 : Int) (hs : sel < 256) (hn : np ≤ 2) (ht : Tab L w) (hL : L ≤ w.heap.size) (f0 : Fits t0) (f1 : Fits t1) (f2 : Fits t2) (hargs : U8Row w av args) (hal : args.length ≤ 300) :
    Calls Ybad.prog 6 #[.int .u8 sel, av, .int .i64 np, .agg #[.int .i64 t0, .int .i64 t1, .int .i64 t2]] w fun e w' => ∃ av', e = .returned (.tuple #[tyV (tyName sel np) av', .string (drawn t0 t1 t2 sel np args)]) ∧ TyArgs w' av' (tyArgs sel np args) ∧ (args = [] → av' = .slice none 0 0) ∧ Below w.heap.size w w' := by
  cases h : isPar sel np with
  | true =>
    have hd : 3 ≤ sel % 5 ∧ sel % 5 - 3 < np := of_decide_eq_true h
    have e1 : tyName sel np = pnameOf (sel % 5 - 3) := by unfold tyName; rw [h]; rfl
    have e2 : tyArgs sel np args = [] := by unfold tyArgs; rw [h]; rfl
    refine (ty_par L sel np av w t0 t1 t2 hs hn ht hL h).mono ?_
    rintro e w' ⟨rfl, hb⟩
    refine ⟨.slice none 0 0, ?_, ?_, fun _ => rfl, hb⟩
    · unfold drawn tyText
      rw [e1, e2, if_pos rfl, leaf_par t0 t1 t2 np _ hn hd.2]
    · rw [e2]
      exact ⟨none, 0, rfl, fun h => by simp at h⟩
  | false =>
    have e1 : tyName sel np = nameOf (sel % 3) := by unfold tyName; rw [h]; rfl
    have e2 : tyArgs sel np args = args.map fun a => nameOf (a % 3) := by unfold tyArgs; rw [h]; rfl
    rw [e1, e2]
    exact ty_nam L sel np av args w t0 t1 t2 hs hn ht hL f0 f1 f2 hargs hal h

theorem tyArgs_nil (sel np : Nat) : tyArgs sel np [] = [] := by
  unfold tyArgs
  split
  · rfl
  · rfl
end Go.Proofs.YbulkbmowDoor
