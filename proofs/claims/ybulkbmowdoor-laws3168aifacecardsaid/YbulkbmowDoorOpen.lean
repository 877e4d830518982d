/-
  What comes in to the laws, opened.
-/
import Derived.Test.YbulkbmowDoorLw
import Derived.Deep.Slices
import Derived.ChangeSame
import Derived.OpenShut
namespace Go.Proofs.YbulkbmowDoor
open Go.RowKit Go Go.ChangeShapes Go.WideShapes
set_option maxRecDepth 100000

theorem plain_addr {w : World} {a : Addr} {v : Value} (h : w.cell? a = some v) : a = ⟨a.block, a.off, none⟩ := by
  obtain ⟨b, o, s⟩ := a
  cases s with
  | none => rfl
  | some s =>
    unfold World.cell? at h
    split at h
    · simp at h
    · cases h

theorem wf_u8 {n : Int} (h : (Lit.int .u8 n).wf = true) : 0 ≤ n ∧ n < 256 := by
  simp [Lit.wf, IntKind.min, IntKind.max, IntKind.signed, IntKind.bits] at h
  omega

theorem fits_wf {n : Int} (h : (Lit.int .i64 n).wf = true) : Fits n := by
  simp [Lit.wf, IntKind.min, IntKind.max, IntKind.signed, IntKind.bits] at h
  unfold Fits
  omega

section
variable {H : Type} {enc : TypeId × Value → H} {w : World}

theorem open_u8 {fuel : Nat} {v : Value} {x : DataW H × List MemPlace} (h : DataW.trod enc Ybad.prog w 0 (fun _ => true) true fuel 25 [v] = some x) :
    ∃ l, U8Row w v l := by
  rcases open_ints Ybad.underlying25 Ybad.underlying5 (by kernel_rfl) h with ⟨h0, _⟩ | ⟨a, len, cap, zs, hcs, _, hl, _, hz, _, hcell, hwz⟩
  · simp at h0
    exact ⟨[], none, 0, h0, by simp, by simp⟩
  · simp only [List.cons.injEq, and_true] at hcs
    subst hcs
    have hz' : zs.length = cap := by simpa using hz
    refine ⟨(zs.take len).map Int.toNat, some a, cap, by simp; omega, fun x hx => ?_, fun hp => ?_⟩
    · rw [List.mem_map] at hx
      obtain ⟨z, hz1, rfl⟩ := hx
      have := wf_u8 (hwz z (List.mem_of_mem_take hz1))
      omega
    · simp at hp
      obtain ⟨b, off, rfl, hc⟩ := ints_at hcell (by omega)
      refine ⟨b, off, rfl, fun j hj => ?_⟩
      simp at hj
      have hj' : j < zs.length := by omega
      rw [hc j hj']
      have hwj := wf_u8 (hwz _ (List.getElem_mem hj'))
      simp only [List.getElem_map, List.getElem_take, List.getD, List.getElem?_eq_getElem hj', Option.getD_some]
      congr 2
      omega

theorem open_fields {fuel : Nat} {v : Value} {x : DataW H × List MemPlace} (h : DataW.trod enc Ybad.prog w 0 (fun _ => true) true fuel 23 [v] = some x) :
    ∃ l, InF w v l := by
  rcases Deep.open_slice Ybad.underlying23 h with ⟨h0, _⟩ | ⟨a, len, cap, m, n, D, Pl, hv, _, hl, _, hmm, _, hx⟩
  · simp at h0
    exact ⟨[], none, 0, h0, by simp⟩
  simp only [if_true] at hmm
  have hmm' := hmm.symm
  subst hmm'
  simp only [List.cons.injEq, and_true] at hv
  subst hv
  have ce : Ybad.prog.cellsOf 27 = 2 := by kernel_rfl
  have c0 : Ybad.prog.cellsOf 5 = 1 := by kernel_rfl
  have c1 : Ybad.prog.cellsOf 25 = 1 := by kernel_rfl
  have each : ∀ i, i < len → ∃ q : Nat × List Nat, q.1 < 256 ∧ w.cell? (a.add (i * 2)) = some (.int .u8 q.1) ∧ ∃ av, w.cell? (a.add (i * 2 + 1)) = some av ∧ U8Row w av q.2 := by
    intro i hi
    obtain ⟨cs', h1, h2⟩ := hx i (by omega)
    rw [ce] at h1
    obtain ⟨_, hlen, hcell⟩ := World.cells?_some h1
    obtain ⟨xs, k, hk, hxy, _, hxl, hf⟩ := DataW.trod_struct Ybad.underlying27 h2
    match cs', hlen with
    | [v0, v1], _ =>
      have g0 : DataW.trod enc Ybad.prog w 0 (fun _ => true) true k 5 (([v0, v1].drop 0).take (Ybad.prog.cellsOf 5)) = xs[0]? := hf 0 _ rfl
      have g1 : DataW.trod enc Ybad.prog w 0 (fun _ => true) true k 25 (([v0, v1].drop 1).take (Ybad.prog.cellsOf 25)) = xs[1]? := hf 1 _ rfl
      rw [c0] at g0
      rw [c1] at g1
      have hx3 : xs.length = 2 := hxl
      rw [List.getElem?_eq_getElem (by omega)] at g0 g1
      obtain ⟨z0, a0, _, b0⟩ := DataW.trod_int Ybad.underlying5 g0
      obtain ⟨l, hu⟩ := open_u8 g1
      have e0 := hcell 0 (by omega)
      have e1 := hcell 1 (by omega)
      rw [Deep.add_add] at e0 e1
      have k0 := wf_u8 b0
      simp at a0 e0 e1
      refine ⟨⟨z0.toNat, l⟩, ?_, ?_, v1, ?_, hu⟩
      · show z0.toNat < 256; omega
      · rw [e0, a0]; simp; omega
      · rw [e1]
  have : Inhabited (Nat × List Nat) := ⟨⟨0, []⟩⟩
  obtain ⟨E, hE⟩ := Deep.choose_lt (α := Nat × List Nat) each
  refine ⟨(List.range len).map E, some a, cap, by simp, fun hp => ?_⟩
  simp at hp
  have hpl := plain_addr (by simpa [Addr.add] using (hE 0 hp).2.1)
  refine ⟨a.block, a.off, by rw [← hpl], fun j hj => ?_⟩
  simp at hj
  obtain ⟨q0, q1, av, q2, q3⟩ := hE j hj
  rw [hpl, WideShapes.add_plain] at q1 q2
  simp only [List.getElem_map, List.getElem_range]
  exact ⟨q0, q1, av, by rw [Nat.add_assoc]; exact q2, q3⟩

theorem open_meths {fuel : Nat} {v : Value} {x : DataW H × List MemPlace} (h : DataW.trod enc Ybad.prog w 0 (fun _ => true) true fuel 24 [v] = some x) :
    ∃ l, InM w v l := by
  rcases Deep.open_slice Ybad.underlying24 h with ⟨h0, _⟩ | ⟨a, len, cap, m, n, D, Pl, hv, _, hl, _, hmm, _, hx⟩
  · simp at h0
    exact ⟨[], none, 0, h0, by simp⟩
  simp only [if_true] at hmm
  have hmm' := hmm.symm
  subst hmm'
  simp only [List.cons.injEq, and_true] at hv
  subst hv
  have ce : Ybad.prog.cellsOf 29 = 3 := by kernel_rfl
  have c0 : Ybad.prog.cellsOf 5 = 1 := by kernel_rfl
  have c1 : Ybad.prog.cellsOf 25 = 1 := by kernel_rfl
  have each : ∀ i, i < len → ∃ q : MIn, q.nm < 256 ∧ q.rs < 256 ∧ w.cell? (a.add (i * 3)) = some (.int .u8 q.nm) ∧ w.cell? (a.add (i * 3 + 2)) = some (.int .u8 q.rs) ∧ ∃ av, w.cell? (a.add (i * 3 + 1)) = some av ∧ U8Row w av q.ps := by
    intro i hi
    obtain ⟨cs', h1, h2⟩ := hx i (by omega)
    rw [ce] at h1
    obtain ⟨_, hlen, hcell⟩ := World.cells?_some h1
    obtain ⟨xs, k, hk, hxy, _, hxl, hf⟩ := DataW.trod_struct Ybad.underlying29 h2
    match cs', hlen with
    | [v0, v1, v2], _ =>
      have g0 : DataW.trod enc Ybad.prog w 0 (fun _ => true) true k 5 (([v0, v1, v2].drop 0).take (Ybad.prog.cellsOf 5)) = xs[0]? := hf 0 _ rfl
      have g1 : DataW.trod enc Ybad.prog w 0 (fun _ => true) true k 25 (([v0, v1, v2].drop 1).take (Ybad.prog.cellsOf 25)) = xs[1]? := hf 1 _ rfl
      have g2 : DataW.trod enc Ybad.prog w 0 (fun _ => true) true k 5 (([v0, v1, v2].drop 2).take (Ybad.prog.cellsOf 5)) = xs[2]? := hf 2 _ rfl
      rw [c0] at g0 g2
      rw [c1] at g1
      have hx3 : xs.length = 3 := hxl
      rw [List.getElem?_eq_getElem (by omega)] at g0 g1 g2
      obtain ⟨z0, a0, _, b0⟩ := DataW.trod_int Ybad.underlying5 g0
      obtain ⟨l, hu⟩ := open_u8 g1
      obtain ⟨z2, a2, _, b2⟩ := DataW.trod_int Ybad.underlying5 g2
      have e0 := hcell 0 (by omega)
      have e1 := hcell 1 (by omega)
      have e2 := hcell 2 (by omega)
      rw [Deep.add_add] at e0 e1 e2
      have k0 := wf_u8 b0
      have k2 := wf_u8 b2
      simp at a0 a2 e0 e1 e2
      refine ⟨⟨z0.toNat, l, z2.toNat⟩, ?_, ?_, ?_, ?_, v1, ?_, hu⟩
      · show z0.toNat < 256; omega
      · show z2.toNat < 256; omega
      · rw [e0, a0]; simp; omega
      · rw [e2, a2]; simp; omega
      · rw [e1]
  have : Inhabited MIn := ⟨⟨0, [], 0⟩⟩
  obtain ⟨E, hE⟩ := Deep.choose_lt (α := MIn) each
  refine ⟨(List.range len).map E, some a, cap, by simp, fun hp => ?_⟩
  simp at hp
  have hpl := plain_addr (by simpa [Addr.add] using (hE 0 hp).2.2.1)
  refine ⟨a.block, a.off, by rw [← hpl], fun j hj => ?_⟩
  simp at hj
  obtain ⟨q0, q00, q1, q4, av, q2, q3⟩ := hE j hj
  rw [hpl, WideShapes.add_plain] at q1 q2 q4
  simp only [List.getElem_map, List.getElem_range]
  exact ⟨q0, q00, q1, by rw [Nat.add_assoc]; exact q4, av, by rw [Nat.add_assoc]; exact q2, q3⟩

/-- An array of two bytes that came in. -/
theorem open_two {base : Nat} {v : Value} {d : DataW H} {ps : List MemPlace} (hv : Value.okWide Ybad.prog w .any base 22 v) (h : DataW.Trod enc Ybad.prog w 0 (fun _ => true) true 22 v d ps) :
    ∃ b0 b1 : Nat, v = .agg #[.int .u8 b0, .int .u8 b1] ∧ b0 < 256 ∧ b1 < 256 := by
  have c22 : Ybad.prog.cellsOf 22 = 2 := by kernel_rfl
  have c5 : Ybad.prog.cellsOf 5 = 1 := by kernel_rfl
  simp only [Value.okWide, Ybad.underlying22] at hv
  obtain ⟨cs, rfl, h2, _⟩ := hv
  rw [c22] at h2
  obtain ⟨fuel, hf⟩ := h
  obtain ⟨l⟩ := cs
  match l, h2 with
  | [c0, c1], _ =>
    obtain ⟨xs, m1, _, hx1, hlen, hn2, hel⟩ := DataW.trod_array Ybad.underlying22 (show DataW.trod enc Ybad.prog w 0 (fun _ => true) true fuel 22 [c0, c1] = some (d, ps) from hf)
    have g0 := hel 0 (by decide)
    have g1 := hel 1 (by decide)
    rw [c5] at g0 g1
    have hn : xs.length = 2 := hn2
    rw [List.getElem?_eq_getElem (by omega)] at g0 g1
    obtain ⟨z0, a0, _, w0⟩ := DataW.trod_int Ybad.underlying5 g0
    obtain ⟨z1, a1, _, w1⟩ := DataW.trod_int Ybad.underlying5 g1
    have k0 := wf_u8 w0
    have k1 := wf_u8 w1
    simp at a0 a1
    refine ⟨z0.toNat, z1.toNat, ?_, by omega, by omega⟩
    subst a0 a1
    have e0 : ((z0.toNat : Nat) : Int) = z0 := by omega
    have e1 : ((z1.toNat : Nat) : Int) = z1 := by omega
    rw [e0, e1]
end
end Go.Proofs.YbulkbmowDoor
