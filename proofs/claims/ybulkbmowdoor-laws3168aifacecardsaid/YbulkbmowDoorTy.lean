/-
  zzs3168aty: the type drawn from data and its text, in plain words.
-/
import Derived.Test.YbulkbmowDoorMeth
namespace Go.Proofs.YbulkbmowDoor
open Go.RowKit Go

/-- The first np parameters' names. -/
def scopeOf (np : Nat) : List ByteArray := (List.range np).map pnameOf

/-- Is a parameter drawn? -/
def isPar (sel np : Nat) : Bool := decide (3 ≤ sel % 5 ∧ sel % 5 - 3 < np)
def tyName (sel np : Nat) : ByteArray := if isPar sel np = true then pnameOf (sel % 5 - 3) else nameOf (sel % 3)
def tyArgs (sel np : Nat) (args : List Nat) : List ByteArray := if isPar sel np = true then [] else args.map fun a => nameOf (a % 3)
def drawn (t0 t1 t2 : Int) (sel np : Nat) (args : List Nat) : ByteArray := tyText t0 t1 t2 (scopeOf np) (tyName sel np) (tyArgs sel np args)

theorem idx_name (np k : Nat) (hn : np ≤ 2) (hk : k < 3) : Lib.idxOfS (scopeOf np) (nameOf k) = -1 := by
  match np, hn, k, hk with
  | 0, _, 0, _ => rfl
  | 0, _, 1, _ => rfl
  | 0, _, 2, _ => rfl
  | 1, _, 0, _ => rfl
  | 1, _, 1, _ => rfl
  | 1, _, 2, _ => rfl
  | 2, _, 0, _ => rfl
  | 2, _, 1, _ => rfl
  | 2, _, 2, _ => rfl

theorem idx_par (np i : Nat) (hn : np ≤ 2) (hi : i < np) : Lib.idxOfS (scopeOf np) (pnameOf i) = i := by
  match np, hn, i, hi with
  | 1, _, 0, _ => rfl
  | 2, _, 0, _ => rfl
  | 2, _, 1, _ => rfl

theorem leaf_name (t0 t1 t2 : Int) (np k : Nat) (hn : np ≤ 2) (hk : k < 3) : leaf t0 t1 t2 (scopeOf np) (nameOf k) = ⟨#[84]⟩ ++ num (tn3 t0 t1 t2 k) := by
  unfold leaf
  rw [idx_name np k hn hk, if_neg (by omega), nid_name k hk]

theorem leaf_par (t0 t1 t2 : Int) (np i : Nat) (hn : np ≤ 2) (hi : i < np) : leaf t0 t1 t2 (scopeOf np) (pnameOf i) = ⟨#[35]⟩ ++ num i := by
  unfold leaf
  rw [idx_par np i hn hi, if_pos (by omega)]

theorem drawn_good (sel np : Nat) (args : List Nat) (hn : np ≤ 2) (ha : args.length ≤ 300) : TyGood (scopeOf np) (tyName sel np) (tyArgs sel np args) := by
  unfold tyName tyArgs
  cases h : isPar sel np with
  | true =>
    have hd : 3 ≤ sel % 5 ∧ sel % 5 - 3 < np := of_decide_eq_true h
    refine ⟨.inl ?_, ?_, ?_, ?_⟩
    · rw [if_pos rfl, idx_par np _ hn hd.2]; omega
    · intro a h; simp at h
    · intro h; exact absurd (if_pos rfl) h
    · simp
  | false =>
    rw [if_neg (by simp), if_neg (by simp)]
    refine ⟨.inr ⟨_, Nat.mod_lt _ (by omega), rfl⟩, fun a h => ?_, fun _ => ⟨⟨_, Nat.mod_lt _ (by omega), rfl⟩, ?_⟩, by simpa using ha⟩
    · rw [List.mem_map] at h
      obtain ⟨x, _, rfl⟩ := h
      exact .inr ⟨_, Nat.mod_lt _ (by omega), rfl⟩
    · rw [idx_name np _ hn (Nat.mod_lt _ (by omega))]; omega
end Go.Proofs.YbulkbmowDoor
