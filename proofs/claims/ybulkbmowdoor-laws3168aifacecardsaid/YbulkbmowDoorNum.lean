import Derived.Test.YbulkbmowDoorShelf
import Derived.WalkKit
import Derived.WalkSpells
import Derived.WalkLawsBesides
import Derived.Deep.AppendLies
import Derived.Deep.QuietTactic
import Derived.BigQuiet
import Derived.Lib.SmallJoins
namespace Go.Proofs.YbulkbmowDoor
open Go.RowKit Go

def nameOf (k : Nat) : ByteArray := if k = 0 then ⟨#[65]⟩ else if k = 1 then ⟨#[66]⟩ else ⟨#[67]⟩
def pnameOf (k : Nat) : ByteArray := if k = 0 then ⟨#[80]⟩ else ⟨#[81]⟩
def mnameOf (k : Nat) : ByteArray := if k = 0 then ⟨#[109]⟩ else if k = 1 then ⟨#[110]⟩ else ⟨#[111]⟩

theorem heap_alloc_newD (w : World) (o : Obj) : (w.alloc o).heap[w.heap.size]? = some o := by
  unfold World.alloc
  simp

theorem name_any (k : Nat) (hk : k < 3) (w : World) : Calls Ybad.prog 5 #[.int .i64 k] w fun e w' => e = .returned (.string (nameOf k)) ∧ w = w' := by
  match k, hk with
  | 0, _ => go_enter Ybad.func5, Ybad.ntmps5; go_wp2; go_ret; exact ⟨rfl, rfl⟩
  | 1, _ => go_enter Ybad.func5, Ybad.ntmps5; go_wp2; go_ret; exact ⟨rfl, rfl⟩
  | 2, _ => go_enter Ybad.func5, Ybad.ntmps5; go_wp2; go_ret; exact ⟨rfl, rfl⟩

theorem pname_any (k : Nat) (hk : k < 2) (w : World) : Calls Ybad.prog 7 #[.int .i64 k] w fun e w' => e = .returned (.string (pnameOf k)) ∧ w = w' := by
  match k, hk with
  | 0, _ => go_enter Ybad.func7, Ybad.ntmps7; go_wp2; go_ret; exact ⟨rfl, rfl⟩
  | 1, _ => go_enter Ybad.func7, Ybad.ntmps7; go_wp2; go_ret; exact ⟨rfl, rfl⟩

theorem mname_any (k : Nat) (hk : k < 3) (w : World) : Calls Ybad.prog 14 #[.int .i64 k] w fun e w' => e = .returned (.string (mnameOf k)) ∧ w = w' := by
  match k, hk with
  | 0, _ => go_enter Ybad.func14, Ybad.ntmps14; go_wp2; go_ret; exact ⟨rfl, rfl⟩
  | 1, _ => go_enter Ybad.func14, Ybad.ntmps14; go_wp2; go_ret; exact ⟨rfl, rfl⟩
  | 2, _ => go_enter Ybad.func14, Ybad.ntmps14; go_wp2; go_ret; exact ⟨rfl, rfl⟩

set_option maxRecDepth 100000 in
theorem run_ins (w : World) (b : Nat) (hb : w.heap.size = b) (es : Array MapEntry) (cl : Nat) (k : ByteArray) (v : Value) (hf : Instr.findNow .string (.string k) es.toList 0 = some none) :
    (Instr.mapUpdate 95 (.map (some b)) (.string k) v).run Ybad.prog (w.alloc (.map es cl)) = .ok () (w.alloc (.map (es.push ⟨.string k, v, cl⟩) (cl + 1))) := by
  subst hb
  have hg : (w.alloc (.map es cl)).heap[w.heap.size]? = some (.map es cl) := heap_alloc_newD w _
  have h1 := MapKept.run_getObj_map (P := Ybad.prog) hg
  have h2 := MapKept.run_setObj_map (P := Ybad.prog) (.map (es.push ⟨.string k, v, cl⟩) (cl + 1)) hg
  have h3 := MapKept.run_checkKey (P := Ybad.prog) (w := w.alloc (.map es cl)) Ybad.underlying9 (k := .string k) (by trivial) false 9999
  have h4 : (Instr.findKey 9 (.string k) es.toList).run Ybad.prog (w.alloc (.map es cl)) = .ok none (w.alloc (.map es cl)) := by
    unfold Instr.findKey
    simp only [Sem.run_bind, run_underlying Ybad.underlying9, Result.andThen_ok, hf, Sem.run_pure]
  have h5 : ({ w.alloc (.map es cl) with heap := (w.alloc (.map es cl)).heap.setIfInBounds w.heap.size (.map (es.push ⟨.string k, v, cl⟩) (cl + 1)) } : World) = w.alloc (.map (es.push ⟨.string k, v, cl⟩) (cl + 1)) := by
    have hh : (w.heap.push (Obj.map es cl)).setIfInBounds w.heap.size (.map (es.push ⟨.string k, v, cl⟩) (cl + 1)) = w.heap.push (.map (es.push ⟨.string k, v, cl⟩) (cl + 1)) := by
      apply Array.ext_getElem?
      intro i
      rw [Array.getElem?_setIfInBounds, Array.getElem?_push, Array.getElem?_push]
      by_cases e : i = w.heap.size
      · subst e; simp
      · rw [if_neg (fun h => e h.symm), if_neg e, if_neg e]
    unfold World.alloc
    dsimp only
    rw [hh]
  unfold Instr.mapUpdate
  simp only [Sem.run_bind, run_underlying Ybad.underlying95, Result.andThen_ok, h1, h3, h4, h2, h5]

/-- A map of three names to 0, 1, 2. -/
def ents (a b c : UInt8) : Array MapEntry := #[⟨.string ⟨#[a]⟩, .int .i64 0, 0⟩, ⟨.string ⟨#[b]⟩, .int .i64 1, 1⟩, ⟨.string ⟨#[c]⟩, .int .i64 2, 2⟩]

theorem ins0 (a : UInt8) (w : World) (b : Nat) (hb : w.heap.size = b) : (Instr.mapUpdate 95 (.map (some b)) (.string ⟨#[a]⟩) (.int .i64 0)).run Ybad.prog (w.alloc (.map #[] 0)) = .ok () (w.alloc (.map #[⟨.string ⟨#[a]⟩, .int .i64 0, 0⟩] 1)) :=
  run_ins w b hb #[] 0 ⟨#[a]⟩ (.int .i64 0) rfl
theorem ins1 (a c : UInt8) (hf : Instr.findNow .string (.string ⟨#[c]⟩) [⟨.string ⟨#[a]⟩, .int .i64 0, 0⟩] 0 = some none) (w : World) (b : Nat) (hb : w.heap.size = b) : (Instr.mapUpdate 95 (.map (some b)) (.string ⟨#[c]⟩) (.int .i64 1)).run Ybad.prog (w.alloc (.map #[⟨.string ⟨#[a]⟩, .int .i64 0, 0⟩] 1)) = .ok () (w.alloc (.map #[⟨.string ⟨#[a]⟩, .int .i64 0, 0⟩, ⟨.string ⟨#[c]⟩, .int .i64 1, 1⟩] 2)) :=
  run_ins w b hb #[⟨.string ⟨#[a]⟩, .int .i64 0, 0⟩] 1 ⟨#[c]⟩ (.int .i64 1) hf
theorem ins2 (a c d : UInt8) (hf : Instr.findNow .string (.string ⟨#[d]⟩) [⟨.string ⟨#[a]⟩, .int .i64 0, 0⟩, ⟨.string ⟨#[c]⟩, .int .i64 1, 1⟩] 0 = some none) (w : World) (b : Nat) (hb : w.heap.size = b) : (Instr.mapUpdate 95 (.map (some b)) (.string ⟨#[d]⟩) (.int .i64 2)).run Ybad.prog (w.alloc (.map #[⟨.string ⟨#[a]⟩, .int .i64 0, 0⟩, ⟨.string ⟨#[c]⟩, .int .i64 1, 1⟩] 2)) = .ok () (w.alloc (.map (ents a c d) 3)) :=
  run_ins w b hb #[⟨.string ⟨#[a]⟩, .int .i64 0, 0⟩, ⟨.string ⟨#[c]⟩, .int .i64 1, 1⟩] 2 ⟨#[d]⟩ (.int .i64 2) hf

/-- A lookup in such a map. -/
theorem look_ents (w : World) (b : Nat) (a c d : UInt8) (k : ByteArray) (x : Int) (i : Nat) (hb : w.heap[b]? = some (.map (ents a c d) 3)) (hf : Instr.findNow .string (.string k) (ents a c d).toList 0 = some (some (i, .int .i64 x))) :
    (Instr.lookup 95 (.map (some b)) (.string k) false).run Ybad.prog w = .ok (.int .i64 x) w := by
  have h1 := MapKept.run_getObj_map (P := Ybad.prog) hb
  have h3 := MapKept.run_checkKey (P := Ybad.prog) (w := w) Ybad.underlying9 (k := .string k) (by trivial) false 9999
  have h4 : (Instr.findKey 9 (.string k) (ents a c d).toList).run Ybad.prog w = .ok (some (i, .int .i64 x)) w := by
    unfold Instr.findKey
    simp only [Sem.run_bind, run_underlying Ybad.underlying9, Result.andThen_ok, hf, Sem.run_pure]
  have h5 : (ents a c d).isEmpty = false := rfl
  unfold Instr.lookup
  simp only [Sem.run_bind, run_underlying Ybad.underlying95, Result.andThen_ok, h1, Sem.run_pure, h5, h3, h4]
  rfl

/-- Where the numbering's parts lie. -/
structure NBlk where
  sh : Nat
  tb : Nat
  nb : Nat
  pg : Nat
  mt : Nat
  mn : Nat
  nm : Nat
  F : Nat

def NBlk.val (p : NBlk) : Value := .agg #[.pointer (some ⟨p.sh, 0, none⟩), .slice (some ⟨p.tb, 0, none⟩) 3 3, .slice (some ⟨p.nb, 0, none⟩) 3 3]

structure NumOK (w : World) (p : NBlk) (t0 t1 t2 n0 n1 n2 : Int) (ms : Value) : Prop where
  sh : w.heap[p.sh]? = some (.cells #[.pointer (some ⟨p.pg, 0, none⟩), .map (some p.mt), .slice (some ⟨p.nm, 0, none⟩) 3 3, .map (some p.mn), ms, .map none] 98 (0, 0))
  pg : w.heap[p.pg]? = some (.cells #[.pointer (some ⟨p.F, 0, none⟩), .map none, .map none, .pointer none] 94 (0, 0))
  mt : w.heap[p.mt]? = some (.map (ents 65 66 67) 3)
  mn : w.heap[p.mn]? = some (.map (ents 109 110 111) 3)
  tb : w.heap[p.tb]? = some (.cells #[.int .i64 t0, .int .i64 t1, .int .i64 t2] 3 (0, 0))
  nb : w.heap[p.nb]? = some (.cells #[.int .i64 n0, .int .i64 n1, .int .i64 n2] 3 (0, 0))

theorem NumOK.below {w w' : World} {p : NBlk} {t0 t1 t2 n0 n1 n2 : Int} {ms : Value} (h : NumOK w p t0 t1 t2 n0 n1 n2 ms) (hb : Below w.heap.size w w') : NumOK w' p t0 t1 t2 n0 n1 n2 ms :=
  ⟨(hb.block _ (Array.getElem?_eq_some_iff.1 h.sh).1).trans h.sh, (hb.block _ (Array.getElem?_eq_some_iff.1 h.pg).1).trans h.pg, (hb.block _ (Array.getElem?_eq_some_iff.1 h.mt).1).trans h.mt,
   (hb.block _ (Array.getElem?_eq_some_iff.1 h.mn).1).trans h.mn, (hb.block _ (Array.getElem?_eq_some_iff.1 h.tb).1).trans h.tb, (hb.block _ (Array.getElem?_eq_some_iff.1 h.nb).1).trans h.nb⟩

/-- The builder's block is none of the numbering's. -/
def NBlk.off (p : NBlk) (b : Nat) : Prop := p.sh ≠ b ∧ p.pg ≠ b ∧ p.mt ≠ b ∧ p.mn ≠ b ∧ p.tb ≠ b ∧ p.nb ≠ b

theorem NumOK.kept {w w' : World} {p : NBlk} {t0 t1 t2 n0 n1 n2 : Int} {ms : Value} {b : Nat} (h : NumOK w p t0 t1 t2 n0 n1 n2 ms) (hb : p.off b) (hk : Lib.OthersKept 5 (some b) w w') : NumOK w' p t0 t1 t2 n0 n1 n2 ms := by
  obtain ⟨b1, b2, b3, b4, b5, b6⟩ := hb
  exact ⟨hk _ _ h.sh (by simpa using b1) (by intro c fz; simp), hk _ _ h.pg (by simpa using b2) (by intro c fz; simp), hk _ _ h.mt (by simpa using b3) (by intro c fz; simp),
    hk _ _ h.mn (by simpa using b4) (by intro c fz; simp), hk _ _ h.tb (by simpa using b5) (by intro c fz; simp), hk _ _ h.nb (by simpa using b6) (by intro c fz; simp)⟩

def numBlk (S F : Nat) : NBlk := ⟨S + 1 + 1 + 1 + 1 + 1, S + 1 + 1 + 1 + 1 + 1 + 1, S + 1 + 1 + 1 + 1 + 1 + 1 + 1, S + 1, S + 1 + 1, S + 1 + 1 + 1 + 1, S + 1 + 1 + 1, F⟩

theorem heap_alloc_oldD (w : World) (o : Obj) {k : Nat} (hk : k < w.heap.size) : (w.alloc o).heap[k]? = w.heap[k]? := by
  have : k < (w.alloc o).heap.size := by simp; omega
  unfold World.alloc
  simp [Array.getElem?_push]
  omega

set_option maxRecDepth 100000 in
set_option maxHeartbeats 1000000 in
theorem num_any (t0 t1 t2 n0 n1 n2 : Int) (F : Nat) (ma : Option Addr) (ml mc : Nat) (w : World) : Calls Ybad.prog 10 #[.int .i64 t0, .int .i64 t1, .int .i64 t2, .int .i64 n0, .int .i64 n1, .int .i64 n2, .pointer (some ⟨F, 0, none⟩), .slice ma ml mc] w fun e w' => e = .returned (numBlk w.heap.size F).val ∧ NumOK w' (numBlk w.heap.size F) t0 t1 t2 n0 n1 n2 (.slice ma ml mc) ∧ Below w.heap.size w w' := by
  have hmm := @run_makeMap Ybad.prog
  have hA0 := ins0 65
  have hA1 := ins1 65 66 rfl
  have hA2 := ins2 65 66 67 rfl
  have hM0 := ins0 109
  have hM1 := ins1 109 110 rfl
  have hM2 := ins2 109 110 111 rfl
  go_enter Ybad.func10, Ybad.ntmps10
  go_wp2_with fail
  refine bodyPost_ret (v := (numBlk w.heap.size F).val) (by simp [results, Ybad.results10, go_sem, numBlk, NBlk.val]) rfl ⟨rfl, ?_, ?_⟩
  · refine ⟨?_, ?_, ?_, ?_, ?_, ?_⟩
    all_goals
      simp only [numBlk]
      repeat (first | (refine Eq.trans (congrArg _ ?_) (heap_alloc_newD _ _); simp; done) | (rw [heap_alloc_oldD _ _ (by simp <;> omega)]))
  · exact (((((((((Below.refl _ w).alloc (Nat.le_refl _) _).alloc (by simp) _).alloc (by simp; omega) _).alloc (by simp; omega) _).alloc (by simp; omega) _).alloc (by simp; omega) _).alloc (by simp; omega) _).alloc (by simp; omega) _)
end Go.Proofs.YbulkbmowDoor
