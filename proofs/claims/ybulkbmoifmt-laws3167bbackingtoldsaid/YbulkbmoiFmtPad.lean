import Derived.Test.YbulkbmoiFmtText
namespace Go.Proofs.YbulkbmoiFmt
open Go.RowKit Go Go.Extern.Stop Go.Stop Go.Extern Go.Kit

/-! ### Plain: the digits -/
def decInts (n : Nat) : List Int := (Lib.decDigits n).map (fun c => (c.toNat : Int))
/-- The digits of n, none for 0. -/
def K (n : Nat) : List Int := if n = 0 then [] else decInts n
/-- What zzs3167bpad lays, the least digit first. -/
def low (n : Nat) : List Int := (K n).reverse
def padded (n : Nat) : List Int := List.replicate (8 - (K n).length) 48 ++ K n

theorem decInts_step (m : Nat) (h : 0 < m) : decInts m = K (m / 10) ++ [48 + ((m : Int) % 10)] := by
  unfold decInts K
  rw [Lib.decDigits]
  split
  · rename_i h1
    rw [if_pos (by omega)]
    simp
    omega
  · rename_i h1
    rw [if_neg (by omega)]
    simp [decInts]
    omega

theorem K_step (m : Nat) (h : 0 < m) : K m = K (m / 10) ++ [48 + ((m : Int) % 10)] := by
  have : K m = decInts m := by unfold K; rw [if_neg (by omega)]
  rw [this, decInts_step m h]

theorem K_len : ∀ (k m : Nat), m < 10 ^ k → (K m).length ≤ k := by
  intro k
  induction k with
  | zero => intro m h; have : m = 0 := by omega
            subst this; simp [K]
  | succ k ih =>
    intro m h
    by_cases h0 : m = 0
    · subst h0; simp [K]
    · rw [K_step m (by omega)]
      have := ih (m / 10) (by rw [Nat.pow_succ] at h; omega)
      simp
      omega

theorem K_len19 (n : Nat) (h : n ≤ 9223372036854775807) : (K n).length ≤ 19 := K_len 19 n (by omega)

theorem padded_zeros (n : Nat) : (padded n).map (fun z => UInt8.ofNat z.toNat) = FmtText.zeros 8 (n : Int) := by
  unfold FmtText.zeros
  rw [if_neg (by omega)]
  have hb : ∀ l : List UInt8, List.map ((fun z : Int => UInt8.ofNat z.toNat) ∘ fun c : UInt8 => (c.toNat : Int)) l = l := by
    intro l
    induction l with
    | nil => rfl
    | cons a l ih => simp [ih]
  unfold padded K
  by_cases h0 : n = 0
  · subst h0
    rw [if_pos rfl]
    have : Lib.decDigits (0 : Nat) = [48] := by rw [Lib.decDigits]; simp
    simp only [Int.natCast_zero, Int.toNat_zero, this]
    decide
  · rw [if_neg h0]
    simp [decInts, hb]

theorem padded_len (n : Nat) (h : n ≤ 9223372036854775807) : 8 ≤ (padded n).length ∧ (padded n).length ≤ 19 := by
  have := K_len19 n h
  unfold padded
  simp
  omega

/-! ### string(out) -/
def strOf (zs : List Int) : ByteArray := zs.foldl (fun r n => r.push (UInt8.ofNat n.toNat)) ByteArray.empty

theorem strOf_data (zs : List Int) : (strOf zs).data.toList = zs.map (fun z => UInt8.ofNat z.toNat) := by
  have h : ∀ (zs : List Int) (b : ByteArray), (zs.foldl (fun r n => r.push (UInt8.ofNat n.toNat)) b).data.toList = b.data.toList ++ zs.map (fun z => UInt8.ofNat z.toNat) := by
    intro zs
    induction zs with
    | nil => intro b; simp
    | cons z zs ih => intro b; rw [List.foldl_cons, ih]; simp [ByteArray.push]
  unfold strOf
  rw [h]
  simp [ByteArray.empty, ByteArray.emptyWithCapacity]
  rfl

theorem run_string (w : World) (g cap : Nat) (zs : List Int) (hcell : ∀ j, j < zs.length → w.cell? ⟨g, j, none⟩ = some (.int .u8 (zs.getD j 0))) (n : Nat) (hn : zs.length = n) :
    (convert 38 9 (.slice (some ⟨g, 0, none⟩) n cap)).run Ybaf.prog w = .ok (.string (strOf zs)) w := by
  rw [run_convert_bytes_string w 38 9 5 _ _ _ Ybaf.underlying38 Ybaf.underlying5 Ybaf.underlying9]
  have h := run_loadCells_list (P := Ybaf.prog) w ⟨g, 0, none⟩ (zs.map (Value.int .u8)) (by
    intro j v hv
    have hj : j < zs.length := by
      have := (List.getElem?_eq_some_iff.1 hv).1
      simpa using this
    have hadd : (⟨g, 0, none⟩ : Addr).add j = ⟨g, j, none⟩ := by unfold Addr.add; split <;> simp_all
    rw [hadd, hcell j hj]
    simp [List.getD, hj] at hv ⊢
    exact hv)
  rw [List.length_map, hn] at h
  exact run_bytesToString w ⟨g, 0, none⟩ n cap zs h
end Go.Proofs.YbulkbmoiFmt
