/-
  THE PROOF OF Rows.LawS3168AIfaceCardSaid: the row, and its tied card.
-/
import Derived.Test.YbulkbmowDoorRow
import Derived.Test.YbulkbmowDoorLawI
namespace Go.Proofs.YbulkbmowDoor.lawS3168AIface
open Go.Proofs.YbulkbmowDoor
open Go.ChangeShapes Go.WideShapes Go.ChangeAt Go.RowKit Go
set_option linter.unusedVariables false
set_option maxRecDepth 100000

theorem lifted (os : Os) (started : os.Started) (H : Type) (enc : TypeId × Value → H) :
    ReturnsInHanded {} Ybad.checked os 4 .any (fun w args => (Rows.lawS3168AIfaceSpec.pre enc Ybad.prog Ybad.f4 Rows.lawS3168AIfaceRow.domain false w args ∧ laidMetH Ybad.prog Rows.lawS3168AIfaceRow.laid w) ∧ sizedMet enc Ybad.prog Ybad.f4 (OpenSpec.ofChange Rows.lawS3168AIfaceSpec) false w args)
      (Rows.lawS3168AIfaceSpec.post enc Ybad.prog Ybad.f4 false true false false) := by
  refine returnsInHanded_of_change_and (C := Ybad.checked) (X := fun w _ => laidMetH Ybad.prog Rows.lawS3168AIfaceRow.laid w) (fun _ _ _ hh h => h.of_heap hh) own started (by kernel_rfl) Ybad.func4
    (ChangeSpec.witness_shaped (enc := enc) (C := Ybad.checked) (os := os) (X := fun w _ => laidMetH Ybad.prog Rows.lawS3168AIfaceRow.laid w) false (World.laidAll Ybad.prog os Rows.lawS3168AIfaceRow.laid) #[.int .i64 0, .int .i64 0, .int .i64 0, .int .i64 0, .int .i64 0, .int .i64 0, .int .u8 0, .int .u8 0, .agg #[.int .u8 0, .int .u8 0], .slice none 0 0, .slice none 0 0] 8 (World.laidAll_os _ _ _)
      (World.shaped_of_ZipB (by kernel_rfl) (by kernel_rfl)) (by kernel_rfl) (by kernel_rfl) (by kernel_rfl)
      (by rw [MakeChecks.laidMetH_plain _ _ _ (by kernel_rfl)]; exact laidMet_laidAll _ (by kernel_rfl) (by kernel_rfl))) ?_
  intro W base args ds gs before hval0 hW hc _ hL _
  have hval : ∀ (j : Nat) t v, Ybad.f4.params[j]? = some t → args[j]? = some v → Value.okWide Ybad.prog W .any base t v := hval0
  have hW' := hW
  obtain ⟨p, q, hA0, hV, rfl, hfz, hnd⟩ := hW
  have hA : DataW.TrodAll enc Ybad.prog W 0 (fun _ => true) true Ybad.f4.params.toList args.toList ds p := hA0
  rw [Ybad.params4] at hA hval
  obtain ⟨v0, vs0, d0, ds0, p0, q0, hargs, rfl, rfl, h0, r0⟩ := trodAll_cons hA
  obtain ⟨v1, vs1, d1, ds1, p1, q1, rfl, rfl, rfl, h1, r1⟩ := trodAll_cons r0
  obtain ⟨v2, vs2, d2, ds2, p2, q2, rfl, rfl, rfl, h2, r2⟩ := trodAll_cons r1
  obtain ⟨v3, vs3, d3, ds3, p3, q3, rfl, rfl, rfl, h3, r3⟩ := trodAll_cons r2
  obtain ⟨v4, vs4, d4, ds4, p4, q4, rfl, rfl, rfl, h4, r4⟩ := trodAll_cons r3
  obtain ⟨v5, vs5, d5, ds5, p5, q5, rfl, rfl, rfl, h5, r5⟩ := trodAll_cons r4
  obtain ⟨v6, vs6, d6, ds6, p6, q6, rfl, rfl, rfl, h6, r6⟩ := trodAll_cons r5
  obtain ⟨v7, vs7, d7, ds7, p7, q7, rfl, rfl, rfl, h7, r7⟩ := trodAll_cons r6
  obtain ⟨v8, vs8, d8, ds8, p8, q8, rfl, rfl, rfl, h8, r8⟩ := trodAll_cons r7
  obtain ⟨v9, vs9, d9, ds9, p9, q9, rfl, rfl, rfl, h9, r9⟩ := trodAll_cons r8
  obtain ⟨v10, vs10, d10, ds10, p10, q10, rfl, rfl, rfl, h10, r10⟩ := trodAll_cons r9
  obtain ⟨rfl, rfl, rfl⟩ := trodAll_nil r10
  obtain rfl : args = #[v0, v1, v2, v3, v4, v5, v6, v7, v8, v9, v10] := by cases args; simp_all
  obtain ⟨rfl, rfl⟩ := trodVars_none hV
  obtain ⟨t0, rfl, rfl, rfl, w0⟩ := open_int Ybad.underlying3 (hval 0 3 v0 rfl rfl) h0
  obtain ⟨t1, rfl, rfl, rfl, w1⟩ := open_int Ybad.underlying3 (hval 1 3 v1 rfl rfl) h1
  obtain ⟨t2, rfl, rfl, rfl, w2⟩ := open_int Ybad.underlying3 (hval 2 3 v2 rfl rfl) h2
  obtain ⟨n0, rfl, rfl, rfl, w3⟩ := open_int Ybad.underlying3 (hval 3 3 v3 rfl rfl) h3
  obtain ⟨n1, rfl, rfl, rfl, w4⟩ := open_int Ybad.underlying3 (hval 4 3 v4 rfl rfl) h4
  obtain ⟨n2, rfl, rfl, rfl, w5⟩ := open_int Ybad.underlying3 (hval 5 3 v5 rfl rfl) h5
  obtain ⟨at8, rfl, rfl, rfl, w6⟩ := open_int Ybad.underlying5 (hval 6 5 v6 rfl rfl) h6
  obtain ⟨np8, rfl, rfl, rfl, w7⟩ := open_int Ybad.underlying5 (hval 7 5 v7 rfl rfl) h7
  obtain ⟨b0, b1, rfl, hb0, hb1⟩ := open_two (hval 8 22 v8 rfl rfl) h8
  obtain ⟨a9, len9, cap9, rfl⟩ := okWide_slice Ybad.underlying24 (hval 9 24 v9 rfl rfl)
  obtain ⟨a10, len10, cap10, rfl⟩ := okWide_slice Ybad.underlying23 (hval 10 23 v10 rfl rfl)
  have lt8 : ∀ x ∈ p8, x.block < W.heap.size := by obtain ⟨m, hm⟩ := h8; exact DataW.trod_lt m _ _ _ hm
  have lt9 : ∀ x ∈ p9, x.block < W.heap.size := by obtain ⟨m, hm⟩ := h9; exact DataW.trod_lt m _ _ _ hm
  have lt10 : ∀ x ∈ p10, x.block < W.heap.size := by obtain ⟨m, hm⟩ := h10; exact DataW.trod_lt m _ _ _ hm
  obtain ⟨ml, hml⟩ : ∃ l, InM W (.slice a9 len9 cap9) l := by
    obtain ⟨fuel, hf⟩ := h9
    exact open_meths hf
  obtain ⟨fl, hfl⟩ : ∃ l, InF W (.slice a10 len10 cap10) l := by
    obtain ⟨fuel, hf⟩ := h10
    exact open_fields hf
  have u6 := wf_u8 w6
  have u7 := wf_u8 w7
  have e6 : ((at8.toNat : Nat) : Int) = at8 := by omega
  have e7 : ((np8.toNat : Nat) : Int) = np8 := by omega
  clear hA0 hval0
  have hcall := law_iface W.heap.size W t0 t1 t2 n0 n1 n2 at8.toNat np8.toNat b0 b1 (.slice a10 len10 cap10) (.slice a9 len9 cap9) fl ml (tab_of hL) (Nat.le_refl _) (fits_wf w0) (fits_wf w1) (fits_wf w2) (fits_wf w3) (fits_wf w4) (fits_wf w5) hb0 hb1 (by omega) (by omega) hfl hml
  rw [e6, e7] at hcall
  refine hcall.mono fun e W' ⟨he, bel⟩ => ?_
  subst he
  exact ⟨_, rfl, _, _, _, [], _, [], hW', trodAll_mk1 (shut_bool Ybad.underlying4 _), trodAll_cons_mk (shut_int Ybad.underlying3 w0) (trodAll_cons_mk (shut_int Ybad.underlying3 w1) (trodAll_cons_mk (shut_int Ybad.underlying3 w2) (trodAll_cons_mk (shut_int Ybad.underlying3 w3) (trodAll_cons_mk (shut_int Ybad.underlying3 w4) (trodAll_cons_mk (shut_int Ybad.underlying3 w5) (trodAll_cons_mk (shut_int Ybad.underlying5 w6) (trodAll_cons_mk (shut_int Ybad.underlying5 w7) (trodAll_cons_mk (Below.trod laidOut (by kernel_rfl) (of_decide_eq_true (by kernel_rfl)) h8 bel lt8) (trodAll_cons_mk (Below.trod laidOut (by kernel_rfl) (of_decide_eq_true (by kernel_rfl)) h9 bel lt9) (trodAll_cons_mk (Below.trod laidOut (by kernel_rfl) (of_decide_eq_true (by kernel_rfl)) h10 bel lt10) trodAll_mk0)))))))))), rfl, bel.frame _, fun h => by cases h⟩

theorem holds : Rows.LawS3168AIfaceSaid :=
  OpenClaim.holds_of_wide 4 Ybad.f4 rfl rfl rfl rfl rfl rfl rfl ⟨rfl, rfl, rfl, rfl, rfl⟩ rfl rfl rfl rfl rfl (by kernel_rfl) Ybad.func4 (by kernel_rfl)
    (of_decide_eq_true (by kernel_rfl)) (by unfold Func.isWrapper; first | (rw [if_pos (by decide +kernel)]; kernel_rfl) | (rw [if_neg (by decide +kernel)]; exact ⟨rfl, rfl⟩))
    (fun os started H enc _ => lifted os started H enc)

theorem func_at : Ybad.prog.funcNamed Rows.lawS3168AIfaceRow.func = some 4 := by kernel_rfl

/-- THE STATEMENT: THE TIED CARD -/
theorem proved : Rows.LawS3168AIfaceCardSaid :=
  Claim7.holds_tied_plain_at .later [] [.data, .data, .data] true Rows.lawS3168AIfaceCard.stood.harness true
    holds (fun _ h => by cases h) (by kernel_rfl) (fun _ h => by cases h) lawS3168AIface_row_tie rfl ⟨rfl, rfl⟩ (by kernel_rfl) rfl
    (fun f fn hf hfn => by
      obtain rfl : f = 4 := Option.some.inj (func_at.symm.trans hf) |>.symm
      obtain rfl : fn = Ybad.f4 := (Option.some.inj (Ybad.func4.symm.trans hfn)).symm
      exact ⟨by kernel_rfl, fun j t ht => by
        rw [Ybad.params4] at ht
        have hm : t ∈ [3, 5, 22, 24, 23] := by have := Array.mem_of_getElem? ht; simpa using this
        have hall : ([3, 5, 22, 24, 23].all fun u => !Ybad.prog.wantsStandIn u) = true := by kernel_rfl
        exact (show Ybad.prog.wantsStandIn t = false by simpa using List.all_eq_true.1 hall t hm)⟩)
    (by kernel_rfl)
#print axioms proved
end Go.Proofs.YbulkbmowDoor.lawS3168AIface
