/-
  The points that come in ([][]struct of three), opened.
-/
import Derived.Test.YbulkbmoiBuild
import Derived.Deep.Slices
import Derived.ChangeSame
namespace Go.Proofs.Ybulkbmoi
open Go.RowKit Go Go.ChangeShapes Go.WideShapes

theorem plain_addr {w : World} {a : Addr} {v : Value} (h : w.cell? a = some v) : a = ⟨a.block, a.off, none⟩ := by
  obtain ⟨b, o, s⟩ := a
  cases s with
  | none => rfl
  | some s =>
    unfold World.cell? at h
    split at h
    · simp at h
    · cases h

theorem wf_u16 {n : Int} (h : (Lit.int .u16 n).wf = true) : 0 ≤ n ∧ n < 65536 := by
  simp [Lit.wf, IntKind.min, IntKind.max, IntKind.signed, IntKind.bits] at h
  omega

theorem wf_u32 {n : Int} (h : (Lit.int .u32 n).wf = true) : 0 ≤ n ∧ n < 4294967296 := by
  simp [Lit.wf, IntKind.min, IntKind.max, IntKind.signed, IntKind.bits] at h
  omega

section
variable {H : Type} {enc : TypeId × Value → H} {w : World}

theorem open_ents {fuel : Nat} {v : Value} {x : DataW H × List MemPlace} (h : DataW.trod enc Yba.prog w 0 (fun _ => true) true fuel 46 [v] = some x) :
    ∃ es, EntRow w v es := by
  rcases Deep.open_slice Yba.underlying46 h with ⟨h0, _⟩ | ⟨a, len, cap, m, n, D, Pl, hv, _, hl, _, hmm, _, hx⟩
  · simp at h0
    exact ⟨[], none, 0, h0, by simp, by simp⟩
  simp only [if_true] at hmm
  have hmm' := hmm.symm
  subst hmm'
  simp only [List.cons.injEq, and_true] at hv
  subst hv
  have ce : Yba.prog.cellsOf 49 = 3 := by kernel_rfl
  have c0 : Yba.prog.cellsOf 47 = 1 := by kernel_rfl
  have c1 : Yba.prog.cellsOf 4 = 1 := by kernel_rfl
  have c2 : Yba.prog.cellsOf 39 = 1 := by kernel_rfl
  have each : ∀ i, i < len → ∃ e : Ent, e.ok ∧ w.cell? (a.add (i * 3)) = some (.int .u16 e.gap) ∧ w.cell? (a.add (i * 3 + 1)) = some (.bool e.zeros) ∧ w.cell? (a.add (i * 3 + 2)) = some (.int .u32 e.crc) := by
    intro i hi
    obtain ⟨cs', h1, h2⟩ := hx i (by omega)
    rw [ce] at h1
    obtain ⟨_, hlen, hcell⟩ := World.cells?_some h1
    obtain ⟨xs, k, hk, hxy, _, hxl, hf⟩ := DataW.trod_struct Yba.underlying49 h2
    match cs', hlen with
    | [v0, v1, v2], _ =>
      have g0 : DataW.trod enc Yba.prog w 0 (fun _ => true) true k 47 (([v0, v1, v2].drop 0).take (Yba.prog.cellsOf 47)) = xs[0]? := hf 0 _ rfl
      have g1 : DataW.trod enc Yba.prog w 0 (fun _ => true) true k 4 (([v0, v1, v2].drop 1).take (Yba.prog.cellsOf 4)) = xs[1]? := hf 1 _ rfl
      have g2 : DataW.trod enc Yba.prog w 0 (fun _ => true) true k 39 (([v0, v1, v2].drop 2).take (Yba.prog.cellsOf 39)) = xs[2]? := hf 2 _ rfl
      rw [c0] at g0
      rw [c1] at g1
      rw [c2] at g2
      have hx3 : xs.length = 3 := hxl
      rw [List.getElem?_eq_getElem (by omega)] at g0 g1 g2
      obtain ⟨z0, a0, _, b0⟩ := DataW.trod_int Yba.underlying47 g0
      obtain ⟨z1, a1, _⟩ := DataW.trod_bool Yba.underlying4 g1
      obtain ⟨z2, a2, _, b2⟩ := DataW.trod_int Yba.underlying39 g2
      have e0 := hcell 0 (by omega)
      have e1 := hcell 1 (by omega)
      have e2 := hcell 2 (by omega)
      rw [Deep.add_add] at e0 e1 e2
      have k0 := wf_u16 b0
      have k2 := wf_u32 b2
      simp at a0 a1 a2 e0 e1 e2
      refine ⟨⟨z0.toNat, z1, z2.toNat⟩, ⟨?_, ?_⟩, ?_, ?_, ?_⟩
      · show z0.toNat < 65536; omega
      · show z2.toNat < 4294967296; omega
      · rw [e0, a0]; simp; omega
      · rw [e1, a1]
      · rw [e2, a2]; simp; omega
  have : Inhabited Ent := ⟨⟨0, false, 0⟩⟩
  obtain ⟨E, hE⟩ := Deep.choose_lt (α := Ent) each
  refine ⟨(List.range len).map E, some a, cap, by simp, ?_, fun hp => ?_⟩
  · intro e he
    simp at he
    obtain ⟨i, hi, rfl⟩ := he
    exact (hE i hi).1
  · simp at hp
    have hpl := plain_addr (by simpa [Addr.add] using (hE 0 hp).2.1)
    refine ⟨a.block, a.off, by rw [← hpl], fun j hj => ?_⟩
    simp at hj
    obtain ⟨_, q0, q1, q2⟩ := hE j hj
    rw [hpl, WideShapes.add_plain] at q0 q1 q2
    simp only [List.getElem_map, List.getElem_range]
    exact ⟨q0, by rw [Nat.add_assoc]; exact q1, by rw [Nat.add_assoc]; exact q2⟩

theorem open_pts {fuel : Nat} {v : Value} {x : DataW H × List MemPlace} (h : DataW.trod enc Yba.prog w 0 (fun _ => true) true fuel 22 [v] = some x) :
    ∃ ps, PtsRow w v ps := by
  rcases Deep.open_slice1 Yba.underlying22 (by kernel_rfl) h with ⟨h0, _⟩ | ⟨a, len, cap, m, n, V, D, Pl, hv, _, hl, _, hmm, _, hx⟩
  · simp at h0
    exact ⟨[], none, 0, h0, by simp⟩
  simp only [if_true] at hmm
  have hmm' := hmm.symm
  subst hmm'
  simp only [List.cons.injEq, and_true] at hv
  subst hv
  have each : ∀ i, i < len → ∃ es, EntRow w (V i) es := fun i hi => open_ents (hx i (by omega)).2
  obtain ⟨E, hE⟩ := Deep.choose_lt (α := List Ent) each
  refine ⟨(List.range len).map E, some a, cap, by simp, fun hp => ?_⟩
  simp at hp
  have hpl := plain_addr (by simpa [Addr.add] using (hx 0 (by omega)).1)
  refine ⟨a.block, a.off, by rw [← hpl], fun i hi => ?_⟩
  simp at hi
  have q := (hx i (by omega)).1
  rw [hpl, WideShapes.add_plain] at q
  refine ⟨V i, q, ?_⟩
  have : ((List.range len).map E).getD i [] = E i := by simp [List.getD, hi]
  rw [this]
  exact hE i hi
end
end Go.Proofs.Ybulkbmoi
