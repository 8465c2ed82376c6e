/-
  The record name as fmt.Sprintf writes it: what the walk wants of the stop, and the text.
-/
import Derived.Test.Qxb6612893aFmtCards
import Derived.Test.Qxb6612893aFmtPlain
import Derived.WalkKit
import Derived.WalkSpells
import Derived.WalkLawsBesides
import Derived.Stop.CallBack
import Derived.Stop.IfaceNil
import Derived.Stop.Texts
import Derived.Stop.Told
import Derived.Stop.FmtTextKit
namespace Go.Proofs.Qxb6612893aFmt
open Go.RowKit Go.Extern.Stop Go.Stop Go.Extern

theorem call12 (args : Array Value) (w : World) : (callFunc 12 args).run Tryf.prog w = ((FmtStop.sprintf #[9, 88] #[9] args).run Tryf.prog w).andThen fun v w' => .ok (.value v) w' :=
  run_callFunc_extern Tryf.func12 (by kernel_rfl) (by kernel_rfl) (by kernel_rfl) (by kernel_rfl) args w
theorem guardOk (name : String) (w : World) : (FmtStop.guard name).run Tryf.prog w = .ok () w := by kernel_rfl
theorem fmtR : FmtStop.printed? ⟨#[37, 48, 56, 100, 46, 114, 101, 99, 111, 114, 100]⟩ 1 = some [(0, 100, false)] := by kernel_rfl
theorem fmtRr (w : World) : (FmtDoors.printed ⟨#[37, 48, 56, 100, 46, 114, 101, 99, 111, 114, 100]⟩ 1).run Tryf.prog w = .ok [(0, 100, false)] w := by kernel_rfl
def shape3 : List UInt8 := [5, 3, 0, 0, 0, 0, 0, 0, 0, 105, 110, 116]
theorem op3 (name : String) (x : Int) (w : World) : (FmtStop.operand name false 100 false (.iface 3 (.int .i64 x))).run Tryf.prog w = .ok (shape3, Go.Extern.Stop.digits 8 (x % 2 ^ 64).toNat) w := by kernel_rfl

/-- WHAT fmt IS ASKED. -/
def reading (n : Int) : List (List UInt8) := [[37, 48, 56, 100, 46, 114, 101, 99, 111, 114, 100], shape3, digits 8 (n % 18446744073709551616).toNat]

theorem t_parse : (FmtText.parse [37, 48, 56, 100, 46, 114, 101, 99, 111, 114, 100]).map FmtText.glue = some [.verb { widPresent := true, wid := 8, zero := true } 100, .lit [46, 114, 101, 99, 111, 114, 100]] := by rfl

theorem t_text (n : Int) (hw : (Lit.int .i64 n).wf = true) : FmtText.text "fmt.Sprintf" (reading n) = some (recB n) := by
  have hi := FmtText.operand_int_at (sh := shape3) (k := .i64) rfl rfl n hw
  rw [reading, FmtText.text_sprintf_glued t_parse (FmtText.operands_cons hi FmtText.operands_nil)]
  simp [FmtText.render, FmtText.printArg_d_zero _ 8 _ hw, recB, recEnd]

theorem told (F : Interp) (n : Int) (hw : (Lit.int .i64 n).wf = true) : FmtStop.textOf (F.told "fmt.Sprintf" (reading n) 0) = ⟨(recB n).toArray⟩ := by
  have h := told_string F (t_text n hw) (by have := FmtText.zeros_length_le' 8 hw; simp [recB, recEnd]; omega)
  rw [← Go.Kit.textOf_list] at h
  rw [← h]
end Go.Proofs.Qxb6612893aFmt
