/- The closed facts for a walk over fmt.Sprintf's stop at this program, after the guide's own make (NameFmt.lean), the text's law, and wire.AppendVouched (6), fmt.Appendf (11). -/
import Derived.Test.YbulkwmeFmtRows
import Derived.Stop.CallBack
import Derived.Stop.IfaceNil
import Derived.Stop.FmtTextKit
import Derived.Stop.FmtTextVerbs
import Derived.Stop.Texts
import Derived.WalkKit
import Derived.WalkSpells
import Derived.WalkLawsBesides
import Derived.Outline
import Derived.Lib.AppendStr
namespace Go.Proofs.YbulkwmeFmt
open Go.RowKit Go.Extern.Stop Go.Stop Go.Extern

theorem call15 (args : Array Value) (w : World) : (callFunc 15 args).run Ybaf.prog w = ((FmtStop.sprintf #[9, 44] #[9] args).run Ybaf.prog w).andThen fun v w' => .ok (.value v) w' :=
  run_callFunc_extern Ybaf.func15 (by kernel_rfl) (by kernel_rfl) (by kernel_rfl) (by kernel_rfl) args w
theorem guardF (name : String) (w : World) : (FmtStop.guard name).run Ybaf.prog w = .ok () w := by kernel_rfl
theorem fmtA : FmtStop.printed? ⟨#[37, 115, 32, 37, 115, 10]⟩ 2 = some [(0, 115, false), (1, 115, false)] := by kernel_rfl
theorem fmtAr (w : World) : (FmtDoors.printed ⟨#[37, 115, 32, 37, 115, 10]⟩ 2).run Ybaf.prog w = .ok [(0, 115, false), (1, 115, false)] w := by kernel_rfl
def shape9 : List UInt8 := [12, 6, 0, 0, 0, 0, 0, 0, 0, 115, 116, 114, 105, 110, 103]
theorem op9_115 (name : String) (x : ByteArray) (w : World) : (FmtStop.operand name false 115 false (.iface 9 (.string x))).run Ybaf.prog w = .ok (shape9, FmtStop.pack x.data.toList) w := by kernel_rfl
theorem strict9 (name : String) (x : ByteArray) (w : World) : (FmtStop.strict name (.iface 9 (.string x))).run Ybaf.prog w = .ok (shape9, FmtStop.pack x.data.toList) w := by kernel_rfl

theorem t_parse : (FmtText.parse [37, 115, 32, 37, 115, 10]).map FmtText.glue = some [.verb {} 115, .lit [32], .verb {} 115, .lit [10]] := by rfl

/-- WHAT fmt IS ASKED. -/
def reading (a b : List UInt8) : List (List UInt8) := [[37, 115, 32, 37, 115, 10], shape9, FmtStop.pack a, shape9, FmtStop.pack b]

theorem t_text (a b : List UInt8) (ha : a.length < 2 ^ 64) (hb : b.length < 2 ^ 64) : FmtText.text "fmt.Sprintf" (reading a b) = some (a ++ [32] ++ b ++ [10]) := by
  have h1 := FmtText.operand_str_at (sh := shape9) rfl rfl a ha
  have h2 := FmtText.operand_str_at (sh := shape9) rfl rfl b hb
  rw [reading, FmtText.text_sprintf_glued t_parse (FmtText.operands_cons h1 (FmtText.operands_cons h2 FmtText.operands_nil))]
  simp [FmtText.render, FmtText.printArg_s_str]
end Go.Proofs.YbulkwmeFmt
