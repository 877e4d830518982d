import Derived.Test.YbulkbmoiFmtProg
import Derived.Stop.CallBack
import Derived.Stop.IfaceNil
import Derived.Stop.FmtTextWidths
import Derived.Stop.FmtTextKit
import Derived.Stop.FmtQuoteTie
import Derived.Stop.JoinedTold
import Derived.Stop.Texts
import Derived.WalkKit
import Derived.WalkSpells
import Derived.WalkLawsBesides
import Derived.Deep.AppendLies
import Derived.Deep.QuietTactic
import Derived.BigQuiet
import Derived.Deep.DeepFit
namespace Go.Proofs.YbulkbmoiFmt
open Go.RowKit Go Go.Extern.Stop Go.Stop Go.Extern Go.Kit

-- fmt.Sprintf: function 10: a plain stop
theorem call10 (args : Array Value) (w : World) : (callFunc 10 args).run Ybaf.prog w = ((FmtStop.sprintf #[9, 63] #[9] args).run Ybaf.prog w).andThen fun v w' => .ok (.value v) w' :=
  run_callFunc_extern Ybaf.func10 (by kernel_rfl) (by kernel_rfl) (by kernel_rfl) (by kernel_rfl) args w
theorem guardOk (name : String) (w : World) : (FmtStop.guard name).run Ybaf.prog w = .ok () w := by kernel_rfl
theorem fmt1 : FmtStop.printed? ⟨#[37, 48, 56, 100]⟩ 1 = some [(0, 100, false)] := by kernel_rfl
theorem fmt1r (w : World) : (FmtDoors.printed ⟨#[37, 48, 56, 100]⟩ 1).run Ybaf.prog w = .ok [(0, 100, false)] w := by kernel_rfl
def shape3 : List UInt8 := [5, 3, 0, 0, 0, 0, 0, 0, 0, 105, 110, 116]
theorem op3_100 (name : String) (x : Int) (w : World) : (FmtStop.operand name false 100 false (.iface 3 (.int .i64 x))).run Ybaf.prog w = .ok (shape3, Go.Extern.Stop.digits 8 (x % 2 ^ 64).toNat) w := by kernel_rfl

/-- What fmt is asked. -/
def reading (n : Int) : List (List UInt8) := [[37, 48, 56, 100], shape3, digits 8 (n % 18446744073709551616).toNat]

theorem parse8 : (FmtText.parse [37, 48, 56, 100]).map FmtText.glue = some [.verb { widPresent := true, wid := 8, zero := true } 100] := by rfl

theorem text8 (n : Int) (hw : (Lit.int .i64 n).wf = true) : FmtText.text "fmt.Sprintf" (reading n) = some (FmtText.zeros 8 n) := by
  have hi := FmtText.operand_int_at (sh := shape3) (k := .i64) rfl rfl n hw
  rw [reading, FmtText.text_sprintf_glued parse8 (FmtText.operands_cons hi FmtText.operands_nil)]
  simp [FmtText.render, FmtText.printArg_d_zero _ 8 _ hw]

theorem told8 (F : Interp) (n : Int) (hw : (Lit.int .i64 n).wf = true) : (FmtStop.textOf (F.told "fmt.Sprintf" (reading n) 0)).data.toList = FmtText.zeros 8 n := by
  have l1 := FmtText.zeros_length_le' 8 hw
  rw [textOf_list]
  exact told_string F (text8 n hw) (by omega)

attribute [local go_sem] call10 guardOk fmt1 fmt1r op3_100

set_option maxHeartbeats 400000 in
theorem pointName_any (F : Interp) (n : Int) (suf : ByteArray) (w : World) (hF : F.answers w.tape) (T : ByteArray) (hT : FmtStop.textOf (F "fmt.Sprintf" (reading n) 0) = T) (hs : T.size + suf.size ≤ 1000) :
    Calls Ybaf.prog 9 #[.int .i64 n, .string suf] w fun e w' => e = .returned (.string (T ++ suf)) ∧ Below w.heap.size w w' := by
  have hF' := answers_open hF
  unfold reading at hT
  go_enter Ybaf.func9, Ybaf.ntmps9
  go_wp2
  go_ret
  exact ⟨rfl, ((Below.refl _ _).alloc (Nat.le_refl _) _).drew⟩

theorem pointFile_any (F : Interp) (n : Int) (w : World) (hF : F.answers w.tape) (T : ByteArray) (hT : FmtStop.textOf (F "fmt.Sprintf" (reading n) 0) = T) (hs : T.size ≤ 100) :
    Calls Ybaf.prog 7 #[.int .i64 n] w fun e w' => e = .returned (.string (T ++ ⟨#[46, 113, 99, 111, 119, 50]⟩)) ∧ Below w.heap.size w w' := by
  have hc := pointName_any F n ⟨#[46, 113, 99, 111, 119, 50]⟩ w hF T hT (by have : (⟨#[46, 113, 99, 111, 119, 50]⟩ : ByteArray).size = 6 := rfl
                                                                            omega)
  go_enter Ybaf.func7, Ybaf.ntmps7
  go_wp2_with fail
  refine hc.mono ?_
  rintro e w1 ⟨rfl, hb⟩
  go_wp2_with fail
  go_ret
  exact ⟨rfl, hb⟩
end Go.Proofs.YbulkbmoiFmt
