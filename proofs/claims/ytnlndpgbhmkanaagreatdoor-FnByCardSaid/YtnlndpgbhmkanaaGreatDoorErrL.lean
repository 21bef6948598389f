/-
  Type assertions on values of any. (Printed by wip/gen_as.py.)
-/
import Derived.Test.YtnlndpgbhmkanaaGreatDoorKitX
import Derived.Stop.Asserts
namespace Go.Gj
open Go Go.Proofs
@[go_sem] theorem as_3_3 (v : Value) (w : World) : (Instr.typeAssert (.iface 3 v) 20 3 true).run Tryz.prog w = .ok (.tuple #[v, .bool true]) w := by kernel_rfl
@[go_sem] theorem as_3_4 (v : Value) (w : World) : (Instr.typeAssert (.iface 3 v) 20 4 true).run Tryz.prog w = .ok (.tuple #[.bool false, .bool false]) w := by kernel_rfl
@[go_sem] theorem as_3_9 (v : Value) (w : World) : (Instr.typeAssert (.iface 3 v) 20 9 true).run Tryz.prog w = .ok (.tuple #[.string ⟨#[]⟩, .bool false]) w := by kernel_rfl
@[go_sem] theorem as_3_79 (v : Value) (w : World) : (Instr.typeAssert (.iface 3 v) 20 79 true).run Tryz.prog w = .ok (.tuple #[.float .f64 0, .bool false]) w := by kernel_rfl
@[go_sem] theorem as_3_80 (v : Value) (w : World) : (Instr.typeAssert (.iface 3 v) 20 80 true).run Tryz.prog w = .ok (.tuple #[.slice none 0 0, .bool false]) w := by kernel_rfl
@[go_sem] theorem as_3_83 (v : Value) (w : World) : (Instr.typeAssert (.iface 3 v) 20 83 true).run Tryz.prog w = .ok (.tuple #[.map none, .bool false]) w := by kernel_rfl
@[go_sem] theorem as_3_109 (v : Value) (w : World) : (Instr.typeAssert (.iface 3 v) 20 109 true).run Tryz.prog w = .ok (.tuple #[.pointer none, .bool false]) w := by kernel_rfl
@[go_sem] theorem as_3_110 (v : Value) (w : World) : (Instr.typeAssert (.iface 3 v) 20 110 true).run Tryz.prog w = .ok (.tuple #[.string ⟨#[]⟩, .bool false]) w := by kernel_rfl
@[go_sem] theorem as_3_141 (v : Value) (w : World) : (Instr.typeAssert (.iface 3 v) 20 141 true).run Tryz.prog w = .ok (.tuple #[.agg #[], .bool false]) w := by kernel_rfl
@[go_sem] theorem as_3_238 (v : Value) (w : World) : (Instr.typeAssert (.iface 3 v) 20 238 true).run Tryz.prog w = .ok (.tuple #[.pointer none, .bool false]) w := by kernel_rfl
@[go_sem] theorem as_4_3 (v : Value) (w : World) : (Instr.typeAssert (.iface 4 v) 20 3 true).run Tryz.prog w = .ok (.tuple #[.int .i64 0, .bool false]) w := by kernel_rfl
@[go_sem] theorem as_4_4 (v : Value) (w : World) : (Instr.typeAssert (.iface 4 v) 20 4 true).run Tryz.prog w = .ok (.tuple #[v, .bool true]) w := by kernel_rfl
@[go_sem] theorem as_4_9 (v : Value) (w : World) : (Instr.typeAssert (.iface 4 v) 20 9 true).run Tryz.prog w = .ok (.tuple #[.string ⟨#[]⟩, .bool false]) w := by kernel_rfl
@[go_sem] theorem as_4_79 (v : Value) (w : World) : (Instr.typeAssert (.iface 4 v) 20 79 true).run Tryz.prog w = .ok (.tuple #[.float .f64 0, .bool false]) w := by kernel_rfl
@[go_sem] theorem as_4_80 (v : Value) (w : World) : (Instr.typeAssert (.iface 4 v) 20 80 true).run Tryz.prog w = .ok (.tuple #[.slice none 0 0, .bool false]) w := by kernel_rfl
@[go_sem] theorem as_4_83 (v : Value) (w : World) : (Instr.typeAssert (.iface 4 v) 20 83 true).run Tryz.prog w = .ok (.tuple #[.map none, .bool false]) w := by kernel_rfl
@[go_sem] theorem as_4_109 (v : Value) (w : World) : (Instr.typeAssert (.iface 4 v) 20 109 true).run Tryz.prog w = .ok (.tuple #[.pointer none, .bool false]) w := by kernel_rfl
@[go_sem] theorem as_4_110 (v : Value) (w : World) : (Instr.typeAssert (.iface 4 v) 20 110 true).run Tryz.prog w = .ok (.tuple #[.string ⟨#[]⟩, .bool false]) w := by kernel_rfl
@[go_sem] theorem as_4_141 (v : Value) (w : World) : (Instr.typeAssert (.iface 4 v) 20 141 true).run Tryz.prog w = .ok (.tuple #[.agg #[], .bool false]) w := by kernel_rfl
@[go_sem] theorem as_4_238 (v : Value) (w : World) : (Instr.typeAssert (.iface 4 v) 20 238 true).run Tryz.prog w = .ok (.tuple #[.pointer none, .bool false]) w := by kernel_rfl
@[go_sem] theorem as_9_3 (v : Value) (w : World) : (Instr.typeAssert (.iface 9 v) 20 3 true).run Tryz.prog w = .ok (.tuple #[.int .i64 0, .bool false]) w := by kernel_rfl
@[go_sem] theorem as_9_4 (v : Value) (w : World) : (Instr.typeAssert (.iface 9 v) 20 4 true).run Tryz.prog w = .ok (.tuple #[.bool false, .bool false]) w := by kernel_rfl
@[go_sem] theorem as_9_9 (v : Value) (w : World) : (Instr.typeAssert (.iface 9 v) 20 9 true).run Tryz.prog w = .ok (.tuple #[v, .bool true]) w := by kernel_rfl
@[go_sem] theorem as_9_79 (v : Value) (w : World) : (Instr.typeAssert (.iface 9 v) 20 79 true).run Tryz.prog w = .ok (.tuple #[.float .f64 0, .bool false]) w := by kernel_rfl
@[go_sem] theorem as_9_80 (v : Value) (w : World) : (Instr.typeAssert (.iface 9 v) 20 80 true).run Tryz.prog w = .ok (.tuple #[.slice none 0 0, .bool false]) w := by kernel_rfl
@[go_sem] theorem as_9_83 (v : Value) (w : World) : (Instr.typeAssert (.iface 9 v) 20 83 true).run Tryz.prog w = .ok (.tuple #[.map none, .bool false]) w := by kernel_rfl
@[go_sem] theorem as_9_109 (v : Value) (w : World) : (Instr.typeAssert (.iface 9 v) 20 109 true).run Tryz.prog w = .ok (.tuple #[.pointer none, .bool false]) w := by kernel_rfl
@[go_sem] theorem as_9_110 (v : Value) (w : World) : (Instr.typeAssert (.iface 9 v) 20 110 true).run Tryz.prog w = .ok (.tuple #[.string ⟨#[]⟩, .bool false]) w := by kernel_rfl
@[go_sem] theorem as_9_141 (v : Value) (w : World) : (Instr.typeAssert (.iface 9 v) 20 141 true).run Tryz.prog w = .ok (.tuple #[.agg #[], .bool false]) w := by kernel_rfl
@[go_sem] theorem as_9_238 (v : Value) (w : World) : (Instr.typeAssert (.iface 9 v) 20 238 true).run Tryz.prog w = .ok (.tuple #[.pointer none, .bool false]) w := by kernel_rfl
@[go_sem] theorem as_79_3 (v : Value) (w : World) : (Instr.typeAssert (.iface 79 v) 20 3 true).run Tryz.prog w = .ok (.tuple #[.int .i64 0, .bool false]) w := by kernel_rfl
@[go_sem] theorem as_79_4 (v : Value) (w : World) : (Instr.typeAssert (.iface 79 v) 20 4 true).run Tryz.prog w = .ok (.tuple #[.bool false, .bool false]) w := by kernel_rfl
@[go_sem] theorem as_79_9 (v : Value) (w : World) : (Instr.typeAssert (.iface 79 v) 20 9 true).run Tryz.prog w = .ok (.tuple #[.string ⟨#[]⟩, .bool false]) w := by kernel_rfl
@[go_sem] theorem as_79_79 (v : Value) (w : World) : (Instr.typeAssert (.iface 79 v) 20 79 true).run Tryz.prog w = .ok (.tuple #[v, .bool true]) w := by kernel_rfl
@[go_sem] theorem as_79_80 (v : Value) (w : World) : (Instr.typeAssert (.iface 79 v) 20 80 true).run Tryz.prog w = .ok (.tuple #[.slice none 0 0, .bool false]) w := by kernel_rfl
@[go_sem] theorem as_79_83 (v : Value) (w : World) : (Instr.typeAssert (.iface 79 v) 20 83 true).run Tryz.prog w = .ok (.tuple #[.map none, .bool false]) w := by kernel_rfl
@[go_sem] theorem as_79_109 (v : Value) (w : World) : (Instr.typeAssert (.iface 79 v) 20 109 true).run Tryz.prog w = .ok (.tuple #[.pointer none, .bool false]) w := by kernel_rfl
@[go_sem] theorem as_79_110 (v : Value) (w : World) : (Instr.typeAssert (.iface 79 v) 20 110 true).run Tryz.prog w = .ok (.tuple #[.string ⟨#[]⟩, .bool false]) w := by kernel_rfl
@[go_sem] theorem as_79_141 (v : Value) (w : World) : (Instr.typeAssert (.iface 79 v) 20 141 true).run Tryz.prog w = .ok (.tuple #[.agg #[], .bool false]) w := by kernel_rfl
@[go_sem] theorem as_79_238 (v : Value) (w : World) : (Instr.typeAssert (.iface 79 v) 20 238 true).run Tryz.prog w = .ok (.tuple #[.pointer none, .bool false]) w := by kernel_rfl
@[go_sem] theorem as_80_3 (v : Value) (w : World) : (Instr.typeAssert (.iface 80 v) 20 3 true).run Tryz.prog w = .ok (.tuple #[.int .i64 0, .bool false]) w := by kernel_rfl
@[go_sem] theorem as_80_4 (v : Value) (w : World) : (Instr.typeAssert (.iface 80 v) 20 4 true).run Tryz.prog w = .ok (.tuple #[.bool false, .bool false]) w := by kernel_rfl
@[go_sem] theorem as_80_9 (v : Value) (w : World) : (Instr.typeAssert (.iface 80 v) 20 9 true).run Tryz.prog w = .ok (.tuple #[.string ⟨#[]⟩, .bool false]) w := by kernel_rfl
@[go_sem] theorem as_80_79 (v : Value) (w : World) : (Instr.typeAssert (.iface 80 v) 20 79 true).run Tryz.prog w = .ok (.tuple #[.float .f64 0, .bool false]) w := by kernel_rfl
@[go_sem] theorem as_80_80 (v : Value) (w : World) : (Instr.typeAssert (.iface 80 v) 20 80 true).run Tryz.prog w = .ok (.tuple #[v, .bool true]) w := by kernel_rfl
@[go_sem] theorem as_80_83 (v : Value) (w : World) : (Instr.typeAssert (.iface 80 v) 20 83 true).run Tryz.prog w = .ok (.tuple #[.map none, .bool false]) w := by kernel_rfl
@[go_sem] theorem as_80_109 (v : Value) (w : World) : (Instr.typeAssert (.iface 80 v) 20 109 true).run Tryz.prog w = .ok (.tuple #[.pointer none, .bool false]) w := by kernel_rfl
@[go_sem] theorem as_80_110 (v : Value) (w : World) : (Instr.typeAssert (.iface 80 v) 20 110 true).run Tryz.prog w = .ok (.tuple #[.string ⟨#[]⟩, .bool false]) w := by kernel_rfl
@[go_sem] theorem as_80_141 (v : Value) (w : World) : (Instr.typeAssert (.iface 80 v) 20 141 true).run Tryz.prog w = .ok (.tuple #[.agg #[], .bool false]) w := by kernel_rfl
@[go_sem] theorem as_80_238 (v : Value) (w : World) : (Instr.typeAssert (.iface 80 v) 20 238 true).run Tryz.prog w = .ok (.tuple #[.pointer none, .bool false]) w := by kernel_rfl
@[go_sem] theorem as_83_3 (v : Value) (w : World) : (Instr.typeAssert (.iface 83 v) 20 3 true).run Tryz.prog w = .ok (.tuple #[.int .i64 0, .bool false]) w := by kernel_rfl
@[go_sem] theorem as_83_4 (v : Value) (w : World) : (Instr.typeAssert (.iface 83 v) 20 4 true).run Tryz.prog w = .ok (.tuple #[.bool false, .bool false]) w := by kernel_rfl
@[go_sem] theorem as_83_9 (v : Value) (w : World) : (Instr.typeAssert (.iface 83 v) 20 9 true).run Tryz.prog w = .ok (.tuple #[.string ⟨#[]⟩, .bool false]) w := by kernel_rfl
@[go_sem] theorem as_83_79 (v : Value) (w : World) : (Instr.typeAssert (.iface 83 v) 20 79 true).run Tryz.prog w = .ok (.tuple #[.float .f64 0, .bool false]) w := by kernel_rfl
@[go_sem] theorem as_83_80 (v : Value) (w : World) : (Instr.typeAssert (.iface 83 v) 20 80 true).run Tryz.prog w = .ok (.tuple #[.slice none 0 0, .bool false]) w := by kernel_rfl
@[go_sem] theorem as_83_83 (v : Value) (w : World) : (Instr.typeAssert (.iface 83 v) 20 83 true).run Tryz.prog w = .ok (.tuple #[v, .bool true]) w := by kernel_rfl
@[go_sem] theorem as_83_109 (v : Value) (w : World) : (Instr.typeAssert (.iface 83 v) 20 109 true).run Tryz.prog w = .ok (.tuple #[.pointer none, .bool false]) w := by kernel_rfl
@[go_sem] theorem as_83_110 (v : Value) (w : World) : (Instr.typeAssert (.iface 83 v) 20 110 true).run Tryz.prog w = .ok (.tuple #[.string ⟨#[]⟩, .bool false]) w := by kernel_rfl
@[go_sem] theorem as_83_141 (v : Value) (w : World) : (Instr.typeAssert (.iface 83 v) 20 141 true).run Tryz.prog w = .ok (.tuple #[.agg #[], .bool false]) w := by kernel_rfl
@[go_sem] theorem as_83_238 (v : Value) (w : World) : (Instr.typeAssert (.iface 83 v) 20 238 true).run Tryz.prog w = .ok (.tuple #[.pointer none, .bool false]) w := by kernel_rfl
@[go_sem] theorem as_141_3 (v : Value) (w : World) : (Instr.typeAssert (.iface 141 v) 20 3 true).run Tryz.prog w = .ok (.tuple #[.int .i64 0, .bool false]) w := by kernel_rfl
@[go_sem] theorem as_141_4 (v : Value) (w : World) : (Instr.typeAssert (.iface 141 v) 20 4 true).run Tryz.prog w = .ok (.tuple #[.bool false, .bool false]) w := by kernel_rfl
@[go_sem] theorem as_141_9 (v : Value) (w : World) : (Instr.typeAssert (.iface 141 v) 20 9 true).run Tryz.prog w = .ok (.tuple #[.string ⟨#[]⟩, .bool false]) w := by kernel_rfl
@[go_sem] theorem as_141_79 (v : Value) (w : World) : (Instr.typeAssert (.iface 141 v) 20 79 true).run Tryz.prog w = .ok (.tuple #[.float .f64 0, .bool false]) w := by kernel_rfl
@[go_sem] theorem as_141_80 (v : Value) (w : World) : (Instr.typeAssert (.iface 141 v) 20 80 true).run Tryz.prog w = .ok (.tuple #[.slice none 0 0, .bool false]) w := by kernel_rfl
@[go_sem] theorem as_141_83 (v : Value) (w : World) : (Instr.typeAssert (.iface 141 v) 20 83 true).run Tryz.prog w = .ok (.tuple #[.map none, .bool false]) w := by kernel_rfl
@[go_sem] theorem as_141_109 (v : Value) (w : World) : (Instr.typeAssert (.iface 141 v) 20 109 true).run Tryz.prog w = .ok (.tuple #[.pointer none, .bool false]) w := by kernel_rfl
@[go_sem] theorem as_141_110 (v : Value) (w : World) : (Instr.typeAssert (.iface 141 v) 20 110 true).run Tryz.prog w = .ok (.tuple #[.string ⟨#[]⟩, .bool false]) w := by kernel_rfl
@[go_sem] theorem as_141_141 (v : Value) (w : World) : (Instr.typeAssert (.iface 141 v) 20 141 true).run Tryz.prog w = .ok (.tuple #[v, .bool true]) w := by kernel_rfl
@[go_sem] theorem as_141_238 (v : Value) (w : World) : (Instr.typeAssert (.iface 141 v) 20 238 true).run Tryz.prog w = .ok (.tuple #[.pointer none, .bool false]) w := by kernel_rfl
@[go_sem] theorem as_nil_3 (w : World) : (Instr.typeAssert .nilIface 20 3 true).run Tryz.prog w = .ok (.tuple #[.int .i64 0, .bool false]) w := by kernel_rfl
@[go_sem] theorem as_nil_4 (w : World) : (Instr.typeAssert .nilIface 20 4 true).run Tryz.prog w = .ok (.tuple #[.bool false, .bool false]) w := by kernel_rfl
@[go_sem] theorem as_nil_9 (w : World) : (Instr.typeAssert .nilIface 20 9 true).run Tryz.prog w = .ok (.tuple #[.string ⟨#[]⟩, .bool false]) w := by kernel_rfl
@[go_sem] theorem as_nil_79 (w : World) : (Instr.typeAssert .nilIface 20 79 true).run Tryz.prog w = .ok (.tuple #[.float .f64 0, .bool false]) w := by kernel_rfl
@[go_sem] theorem as_nil_80 (w : World) : (Instr.typeAssert .nilIface 20 80 true).run Tryz.prog w = .ok (.tuple #[.slice none 0 0, .bool false]) w := by kernel_rfl
@[go_sem] theorem as_nil_83 (w : World) : (Instr.typeAssert .nilIface 20 83 true).run Tryz.prog w = .ok (.tuple #[.map none, .bool false]) w := by kernel_rfl
@[go_sem] theorem as_nil_109 (w : World) : (Instr.typeAssert .nilIface 20 109 true).run Tryz.prog w = .ok (.tuple #[.pointer none, .bool false]) w := by kernel_rfl
@[go_sem] theorem as_nil_110 (w : World) : (Instr.typeAssert .nilIface 20 110 true).run Tryz.prog w = .ok (.tuple #[.string ⟨#[]⟩, .bool false]) w := by kernel_rfl
@[go_sem] theorem as_nil_141 (w : World) : (Instr.typeAssert .nilIface 20 141 true).run Tryz.prog w = .ok (.tuple #[.agg #[], .bool false]) w := by kernel_rfl
@[go_sem] theorem as_nil_238 (w : World) : (Instr.typeAssert .nilIface 20 238 true).run Tryz.prog w = .ok (.tuple #[.pointer none, .bool false]) w := by kernel_rfl
@[go_sem] theorem as_3_87 (v : Value) (w : World) : (Instr.typeAssert (.iface 3 v) 20 87 true).run Tryz.prog w = .ok (.tuple #[.nilIface, .bool false]) w := run_typeAssert_lacksB Tryz.underlying87 (by kernel_rfl) (by kernel_rfl) v 20 w
@[go_sem] theorem as_4_87 (v : Value) (w : World) : (Instr.typeAssert (.iface 4 v) 20 87 true).run Tryz.prog w = .ok (.tuple #[.nilIface, .bool false]) w := run_typeAssert_lacksB Tryz.underlying87 (by kernel_rfl) (by kernel_rfl) v 20 w
@[go_sem] theorem as_9_87 (v : Value) (w : World) : (Instr.typeAssert (.iface 9 v) 20 87 true).run Tryz.prog w = .ok (.tuple #[.nilIface, .bool false]) w := run_typeAssert_lacksB Tryz.underlying87 (by kernel_rfl) (by kernel_rfl) v 20 w
@[go_sem] theorem as_79_87 (v : Value) (w : World) : (Instr.typeAssert (.iface 79 v) 20 87 true).run Tryz.prog w = .ok (.tuple #[.nilIface, .bool false]) w := run_typeAssert_lacksB Tryz.underlying87 (by kernel_rfl) (by kernel_rfl) v 20 w
@[go_sem] theorem as_80_87 (v : Value) (w : World) : (Instr.typeAssert (.iface 80 v) 20 87 true).run Tryz.prog w = .ok (.tuple #[.nilIface, .bool false]) w := run_typeAssert_lacksB Tryz.underlying87 (by kernel_rfl) (by kernel_rfl) v 20 w
@[go_sem] theorem as_83_87 (v : Value) (w : World) : (Instr.typeAssert (.iface 83 v) 20 87 true).run Tryz.prog w = .ok (.tuple #[.nilIface, .bool false]) w := run_typeAssert_lacksB Tryz.underlying87 (by kernel_rfl) (by kernel_rfl) v 20 w
@[go_sem] theorem as_141_87 (v : Value) (w : World) : (Instr.typeAssert (.iface 141 v) 20 87 true).run Tryz.prog w = .ok (.tuple #[.nilIface, .bool false]) w := run_typeAssert_lacksB Tryz.underlying87 (by kernel_rfl) (by kernel_rfl) v 20 w
@[go_sem] theorem as_nil_87 (w : World) : (Instr.typeAssert .nilIface 20 87 true).run Tryz.prog w = .ok (.tuple #[.nilIface, .bool false]) w := by kernel_rfl
@[go_sem] theorem as_9_9_f (v : Value) (w : World) : (Instr.typeAssert (.iface 9 v) 20 9 false).run Tryz.prog w = .ok v w := by kernel_rfl
@[go_sem] theorem as_80_80_f (v : Value) (w : World) : (Instr.typeAssert (.iface 80 v) 20 80 false).run Tryz.prog w = .ok v w := by kernel_rfl
@[go_sem] theorem as_83_83_f (v : Value) (w : World) : (Instr.typeAssert (.iface 83 v) 20 83 false).run Tryz.prog w = .ok v w := by kernel_rfl
end Go.Gj

/-
  gojq's errors, as values of any.
-/
namespace Go.Gj
set_option linter.unusedSimpArgs false
set_option linter.unusedVariables false
set_option linter.unnecessarySimpa false
open Go Go.RowKit Go.Proofs

/-- A value of any that is an error. -/
def IsErr (g : Value) : Prop := (∃ t v, g = .iface t v) ∧ ∀ w, (Instr.typeAssert g 20 87 true).run Tryz.prog w = .ok (.tuple #[g, .bool true]) w

theorem err_106 (v : Value) : IsErr (.iface 106 v) := ⟨⟨_, _, rfl⟩, fun w => by kernel_rfl⟩
theorem err_114 (v : Value) : IsErr (.iface 114 v) := ⟨⟨_, _, rfl⟩, fun w => by kernel_rfl⟩
theorem err_126 (v : Value) : IsErr (.iface 126 v) := ⟨⟨_, _, rfl⟩, fun w => by kernel_rfl⟩
theorem err_129 (v : Value) : IsErr (.iface 129 v) := ⟨⟨_, _, rfl⟩, fun w => by kernel_rfl⟩
end Go.Gj
