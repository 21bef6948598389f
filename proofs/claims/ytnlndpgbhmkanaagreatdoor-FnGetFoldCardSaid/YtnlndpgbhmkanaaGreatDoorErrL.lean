/-
  gojq's errors, as values of any.
-/
import Derived.Test.YtnlndpgbhmkanaaGreatDoorAsL
namespace Go.Gj
set_option linter.unusedSimpArgs false
set_option linter.unusedVariables false
set_option linter.unnecessarySimpa false
open Go Go.RowKit Go.Proofs

/-- A value of any that is an error. -/
def IsErr (g : Value) : Prop := (∃ t v, g = .iface t v) ∧ ∀ w, (Instr.typeAssert g 20 87 true).run Tryz.prog w = .ok (.tuple #[g, .bool true]) w

theorem err_106 (v : Value) : IsErr (.iface 106 v) := ⟨⟨_, _, rfl⟩, fun w => by kernel_rfl⟩
theorem err_114 (v : Value) : IsErr (.iface 114 v) := ⟨⟨_, _, rfl⟩, fun w => by kernel_rfl⟩
theorem err_126 (v : Value) : IsErr (.iface 126 v) := ⟨⟨_, _, rfl⟩, fun w => by kernel_rfl⟩
theorem err_129 (v : Value) : IsErr (.iface 129 v) := ⟨⟨_, _, rfl⟩, fun w => by kernel_rfl⟩
end Go.Gj
