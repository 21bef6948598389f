/-
  No function of the program starts a goroutine: so no call does.
-/
import Derived.Test.YtnlndpgbhmkanaaGreatDoorProg
import Derived.KernelRfl
import GoSem.ClaimGoes
namespace Go.Gj
open Go Go.Proofs

theorem goes_none {P : Program} (h : P.funcs.any Func.goes = false) (f : FuncId) : P.goes f = false := by
  unfold Program.goes
  rw [h, Bool.and_false, Bool.or_false, List.any_eq_false]
  intro g _
  cases hg : P.funcs[g]? with
  | none => simp
  | some fn =>
    have hm : fn ∈ P.funcs := Array.mem_of_getElem? hg
    rw [Array.any_eq_false'] at h
    simpa using h fn hm
theorem goesBy_none {P : Program} {c : OpenClaim} (h : P.funcs.any Func.goes = false) (hst : c.start = .entering) : false = c.goesBy P := by
  unfold OpenClaim.goesBy Program.goesAt Program.goesFrom
  rw [hst]
  cases P.funcNamed c.func with
  | none => rfl
  | some f => simp [goes_none h]

set_option maxRecDepth 100000 in
theorem noGo : Tryz.prog.funcs.any Func.goes = false := by kernel_rfl
end Go.Gj
