/-
  Answers of gojq's functions, as values of any: a value, or an error.
-/
import Derived.Test.YtnlndpgbhmkanaaGreatDoorErrL
import Derived.Test.YtnlndpgbhmkanaaGreatDoorWFromA
import Derived.Test.YtnlndpgbhmkanaaGreatDoorPlP
import Derived.Test.YtnlndpgbhmkanaaGreatDoorReadL
namespace Go.Gj
set_option linter.unusedSimpArgs false
set_option linter.unusedVariables false
set_option linter.unnecessarySimpa false
open Go Go.RowKit Go.Proofs

theorem sz_of_ok : ∀ x : J, x.ok → x.sz
  | .null, _ => trivial
  | .bool _, _ => trivial
  | .num _, _ => trivial
  | .str _, _ => trivial
  | .arr l, h => ⟨h.1, (szs_iff l).2 fun y hy => sz_of_ok y ((oks_iff l).1 h.2 y hy)⟩
  | .obj ks vs, h => ⟨h.1, h.2.1, h.2.2.1, (szs_iff vs).2 fun y hy => sz_of_ok y ((oks_iff vs).1 h.2.2.2.2 y hy)⟩
termination_by x => SizeOf.sizeOf x
decreasing_by
  · have := List.sizeOf_lt_of_mem hy; simp; omega
  · have := List.sizeOf_lt_of_mem hy; simp; omega
/-- A value of any that stands for an answer. -/
def AnyIs (w : World) (a : Option J) (g : Value) : Prop := match a with
  | some z => ARep w (allB w) z g ∧ z.sz
  | none => IsErr g

def AnyGives (w : World) (a : Option J) (e : Ending) (w' : World) : Prop := ∃ g, e = .returned g ∧ Below w.heap.size w w' ∧ AnyIs w' a g

end Go.Gj
