import Derived.Test.YbulkbmoiFmtPadw
namespace Go.Proofs.YbulkbmoiFmt
open Go.RowKit Go Go.Extern.Stop Go.Stop Go.Extern Go.Kit

theorem suffix_any (s suf : ByteArray) (w : World) (hs : s.size ≤ 1000) (hle : suf.size ≤ s.size) :
    Calls Ybaf.prog 5 #[.string s, .string suf] w fun e w' => e = .returned (.bool ((s.extract (s.size - suf.size) s.size).toList == suf.toList)) ∧ w = w' := by
  go_enter Ybaf.func5, Ybaf.ntmps5
  go_wp2
  go_ret
  exact ⟨rfl, rfl⟩

theorem back_zero (R : Addr) (w : World) : Calls Ybaf.prog 4 #[.pointer (some R), .int .i64 0] w fun e w' => e = .returned (.string ⟨#[]⟩) ∧ w = w' := by
  go_enter Ybaf.func4, Ybaf.ntmps4
  go_wp2
  go_ret
  exact ⟨rfl, rfl⟩

theorem back_base (R g L cap i : Nat) (w : World) (h1 : w.cell? ⟨R, 1, none⟩ = some (.slice (some ⟨g, 0, none⟩) L cap)) (hi : i < L) (h0 : 0 < i) (hb : w.cell? ⟨g, i * 5 + 4, none⟩ = some (.bool true)) :
    Calls Ybaf.prog 4 #[.pointer (some ⟨R, 0, none⟩), .int .i64 i] w fun e w' => e = .returned (.string ⟨#[]⟩) ∧ w = w' := by
  go_enter Ybaf.func4, Ybaf.ntmps4
  go_wp2
  go_ret
  exact ⟨rfl, rfl⟩

theorem back_name (F : Interp) (R g L cap i : Nat) (w : World) (hF : F.answers w.tape) (n : Int) (T : ByteArray) (hT : FmtStop.textOf (F "fmt.Sprintf" (reading n) 0) = T) (hs : T.size ≤ 100)
    (h1 : w.cell? ⟨R, 1, none⟩ = some (.slice (some ⟨g, 0, none⟩) L cap)) (hi : i ≤ L) (h0 : 0 < i) (hL : L ≤ 1024) (hb : i < L → w.cell? ⟨g, i * 5 + 4, none⟩ = some (.bool false)) (hn : w.cell? ⟨g, (i - 1) * 5, none⟩ = some (.int .i64 n)) :
    Calls Ybaf.prog 4 #[.pointer (some ⟨R, 0, none⟩), .int .i64 i] w fun e w' => e = .returned (.string (T ++ ⟨#[46, 113, 99, 111, 119, 50]⟩)) ∧ Below w.heap.size w w' := by
  have hc := pointFile_any F n w hF T hT hs
  by_cases hlt : i < L
  · have hb' := hb hlt
    clear hb hT hF
    go_enter Ybaf.func4, Ybaf.ntmps4
    go_wp2_with fail
    refine hc.mono ?_
    rintro e w1 ⟨rfl, hbl⟩
    go_wp2_with fail
    go_ret
    exact ⟨rfl, hbl⟩
  · clear hb hT hF
    go_enter Ybaf.func4, Ybaf.ntmps4
    go_wp2_with fail
    refine hc.mono ?_
    rintro e w1 ⟨rfl, hbl⟩
    go_wp2_with fail
    go_ret
    exact ⟨rfl, hbl⟩
end Go.Proofs.YbulkbmoiFmt
