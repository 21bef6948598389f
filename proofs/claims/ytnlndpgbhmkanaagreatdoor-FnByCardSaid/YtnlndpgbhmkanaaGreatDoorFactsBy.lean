/-
  The closed facts that the row of FnBy asks, one by one. (Printed by wip/gen_row.py.)
-/
import Derived.Test.YtnlndpgbhmkanaaGreatDoorCards
import Derived.JoinedCond
import Derived.KernelRfl
namespace Go.Proofs.YtnlndpgbhmkanaaGreatDoor.factsBy
open Go
theorem and_mk {a b : Bool} (h : a = true) (k : b = true) : (a && b) = true := by rw [h, k]; rfl
set_option maxRecDepth 100000 in
theorem k0 : (Rows.fnByRow.wf (OpenSpec.ofChange Rows.fnBySpec) : Bool) = true := by kernel_rfl
set_option maxRecDepth 100000 in
theorem k1 : (laidOutB Tryz.prog : Bool) = true := by kernel_rfl
set_option maxRecDepth 100000 in
theorem k2 : (mapsRowed Tryz.prog : Bool) = true := by kernel_rfl
set_option maxRecDepth 100000 in
theorem k3 : (Tryz.f4.params.all (Tryz.prog.readableRec ·) : Bool) = true := by kernel_rfl
set_option maxRecDepth 100000 in
theorem k4 : (namedTie Tryz.prog Rows.fnByRow.named Rows.fnBySpec.vars : Bool) = true := by kernel_rfl
set_option maxRecDepth 100000 in
theorem k5 : ((Rows.fnByRow.stops == []) : Bool) = true := by kernel_rfl
set_option maxRecDepth 100000 in
theorem k6 : ((Tryz.prog.stops == []) : Bool) = true := by kernel_rfl
set_option maxRecDepth 100000 in
theorem k7 : ((Rows.fnByRow.knobs == []) : Bool) = true := by kernel_rfl
set_option maxRecDepth 100000 in
theorem k8 : ((Tryz.prog.stopKnobs == []) : Bool) = true := by kernel_rfl
set_option maxRecDepth 100000 in
theorem k9 : ((Rows.fnByRow.inPlace == Tryz.prog.inPlace 4) : Bool) = true := by kernel_rfl
set_option maxRecDepth 100000 in
theorem k10 : ((Rows.fnByRow.unfollowed == Tryz.prog.unfollowed 4) : Bool) = true := by kernel_rfl
set_option maxRecDepth 100000 in
theorem k11 : ((Rows.fnByRow.recurses == Tryz.prog.recurses 4) : Bool) = true := by kernel_rfl
set_option maxRecDepth 100000 in
theorem k12 : ((Rows.fnByRow.named == Tryz.prog.varsNamed 4) : Bool) = true := by kernel_rfl
set_option maxRecDepth 100000 in
theorem k13 : ((Rows.fnByRow.maps == (Tryz.f4.params.toList ++ Rows.fnBySpec.plain.varTypes Tryz.prog).any (Tryz.prog.mapsRec ·)) : Bool) = true := by kernel_rfl
set_option maxRecDepth 100000 in
theorem k14 : ((Rows.fnByRow.ifaces == (Tryz.f4.params.toList ++ Rows.fnBySpec.plain.varTypes Tryz.prog).any (Tryz.prog.ifacesRec ·)) : Bool) = true := by kernel_rfl
set_option maxRecDepth 100000 in
theorem k15 : ((Rows.fnByRow.mapsOut == Tryz.prog.mapsAmong Tryz.f4.resultTypes.toList) : Bool) = true := by kernel_rfl
set_option maxRecDepth 100000 in
theorem k16 : ((Rows.fnByRow.loops == (Tryz.f4.params.toList ++ Rows.fnBySpec.plain.varTypes Tryz.prog).any (Tryz.prog.loopsFrom ·)) : Bool) = true := by kernel_rfl
set_option maxRecDepth 100000 in
theorem k17 : ((Rows.fnByRow.wideKeys == (Tryz.f4.params.toList ++ Rows.fnBySpec.plain.varTypes Tryz.prog ++ Tryz.f4.resultTypes.toList).any (Tryz.prog.wideKeysFrom ·)) : Bool) = true := by kernel_rfl
set_option maxRecDepth 100000 in
theorem k18 : (Rows.fnBySpec.vars.all (Tryz.prog.varReadable ·) : Bool) = true := by kernel_rfl
set_option maxRecDepth 100000 in
theorem k19 : (Tryz.f4.resultTypes.all (fun t => Tryz.prog.readableRec t && decide (t < Tryz.prog.types.size)) : Bool) = true := by kernel_rfl
set_option maxRecDepth 100000 in
theorem k20 : ((Rows.fnByRow.ifacesOut == Tryz.f4.resultTypes.toList.any (Tryz.prog.ifacesRec ·)) : Bool) = true := by kernel_rfl
set_option maxRecDepth 100000 in
theorem k21 : ((Rows.fnByRow.loopsOut == Tryz.f4.resultTypes.toList.any (Tryz.prog.loopsFrom ·)) : Bool) = true := by kernel_rfl
set_option maxRecDepth 100000 in
theorem k22 : ((Rows.fnByRow.plainKeys == Tryz.prog.plainKeys) : Bool) = true := by kernel_rfl
set_option maxRecDepth 100000 in
theorem k23 : (Rows.fnByRow.shortTexts.isNone : Bool) = true := by kernel_rfl
set_option maxRecDepth 100000 in
theorem k24 : (Tryz.prog.stopsHeard : Bool) = true := by kernel_rfl
set_option maxRecDepth 100000 in
theorem k25 : (Tryz.prog.mayEnter : Bool) = true := by kernel_rfl
set_option maxRecDepth 100000 in
theorem k26 : ((Rows.fnByRow.lifted == Tryz.prog.liftsFinal) : Bool) = true := by kernel_rfl
set_option maxRecDepth 100000 in
theorem k27 : ((Tryz.prog.make == some Rows.fnByRow.make) : Bool) = true := by kernel_rfl
set_option maxRecDepth 100000 in
theorem k28 : ((Rows.fnByRow.kinds == (if Rows.fnByRow.domain.isEmpty then [] else Tryz.f4.params.toList.map fun t => match Tryz.prog.underlying t with | some (.int k) => some k | _ => none)) : Bool) = true := by kernel_rfl
set_option maxRecDepth 100000 in
theorem k29 : ((Rows.fnByRow.pinned == Rows.fnByRow.pinnedBy) : Bool) = true := by kernel_rfl
set_option maxRecDepth 100000 in
theorem k30 : ((Rows.fnByRow.veiled == (Tryz.f4.params.toList ++ Rows.fnBySpec.plain.varTypes Tryz.prog ++ Tryz.f4.resultTypes.toList).any (Tryz.prog.veiledRec ·)) : Bool) = true := by kernel_rfl
set_option maxRecDepth 100000 in
theorem k31 : (Rows.fnByRow.veiledFits Tryz.prog Tryz.f4.params.toList (Tryz.f4.params.toList ++ Rows.fnBySpec.plain.varTypes Tryz.prog ++ Tryz.f4.resultTypes.toList) : Bool) = true := by kernel_rfl
set_option maxRecDepth 100000 in
theorem closed : joinedFacts Tryz.prog 4 Tryz.f4 Rows.fnBySpec Rows.fnByRow = true := (and_mk (and_mk (and_mk (and_mk (and_mk (and_mk (and_mk (and_mk (and_mk (and_mk (and_mk (and_mk (and_mk (and_mk (and_mk (and_mk (and_mk (and_mk (and_mk (and_mk (and_mk (and_mk (and_mk (and_mk (and_mk (and_mk (and_mk (and_mk (and_mk (and_mk (and_mk k0 k1) k2) k3) k4) k5) k6) k7) k8) k9) k10) k11) k12) k13) k14) k15) k16) k17) k18) k19) k20) k21) k22) k23) k24) k25) k26) k27) k28) k29) k30) k31)
set_option maxRecDepth 100000 in
theorem named : Tryz.prog.funcNamed Rows.fnByRow.func = some 4 := by kernel_rfl
set_option maxRecDepth 100000 in
theorem byText : Rows.fnByRow.wfByText (OpenSpec.ofChange Rows.fnBySpec) = true := by kernel_rfl
set_option maxRecDepth 100000 in
theorem looks : true = Tryz.prog.looks [] := by kernel_rfl
end Go.Proofs.YtnlndpgbhmkanaaGreatDoor.factsBy
