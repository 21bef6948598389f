/-
  The closed facts that the row of FnHasNot asks, one by one. (Printed by wip/gen_row.py.)
-/
import Derived.Test.YtnlndpgbhmkanaaGreatDoorCards
import Derived.JoinedCond
import Derived.KernelRfl
namespace Go.Proofs.YtnlndpgbhmkanaaGreatDoor.factsHasNot
open Go
theorem and_mk {a b : Bool} (h : a = true) (k : b = true) : (a && b) = true := by rw [h, k]; rfl
set_option maxRecDepth 100000 in
theorem k0 : (Rows.fnHasNotRow.wf (OpenSpec.ofChange Rows.fnHasNotSpec) : Bool) = true := by kernel_rfl
set_option maxRecDepth 100000 in
theorem k1 : (laidOutB Tryz.prog : Bool) = true := by kernel_rfl
set_option maxRecDepth 100000 in
theorem k2 : (mapsRowed Tryz.prog : Bool) = true := by kernel_rfl
set_option maxRecDepth 100000 in
theorem k3 : (Tryz.f7.params.all (Tryz.prog.readableRec ·) : Bool) = true := by kernel_rfl
set_option maxRecDepth 100000 in
theorem k4 : (namedTie Tryz.prog Rows.fnHasNotRow.named Rows.fnHasNotSpec.vars : Bool) = true := by kernel_rfl
set_option maxRecDepth 100000 in
theorem k5 : ((Rows.fnHasNotRow.stops == []) : Bool) = true := by kernel_rfl
set_option maxRecDepth 100000 in
theorem k6 : ((Tryz.prog.stops == []) : Bool) = true := by kernel_rfl
set_option maxRecDepth 100000 in
theorem k7 : ((Rows.fnHasNotRow.knobs == []) : Bool) = true := by kernel_rfl
set_option maxRecDepth 100000 in
theorem k8 : ((Tryz.prog.stopKnobs == []) : Bool) = true := by kernel_rfl
set_option maxRecDepth 100000 in
theorem k9 : ((Rows.fnHasNotRow.inPlace == Tryz.prog.inPlace 7) : Bool) = true := by kernel_rfl
set_option maxRecDepth 100000 in
theorem k10 : ((Rows.fnHasNotRow.unfollowed == Tryz.prog.unfollowed 7) : Bool) = true := by kernel_rfl
set_option maxRecDepth 100000 in
theorem k11 : ((Rows.fnHasNotRow.recurses == Tryz.prog.recurses 7) : Bool) = true := by kernel_rfl
set_option maxRecDepth 100000 in
theorem k12 : ((Rows.fnHasNotRow.named == Tryz.prog.varsNamed 7) : Bool) = true := by kernel_rfl
set_option maxRecDepth 100000 in
theorem k13 : ((Rows.fnHasNotRow.maps == (Tryz.f7.params.toList ++ Rows.fnHasNotSpec.plain.varTypes Tryz.prog).any (Tryz.prog.mapsRec ·)) : Bool) = true := by kernel_rfl
set_option maxRecDepth 100000 in
theorem k14 : ((Rows.fnHasNotRow.ifaces == (Tryz.f7.params.toList ++ Rows.fnHasNotSpec.plain.varTypes Tryz.prog).any (Tryz.prog.ifacesRec ·)) : Bool) = true := by kernel_rfl
set_option maxRecDepth 100000 in
theorem k15 : ((Rows.fnHasNotRow.mapsOut == Tryz.prog.mapsAmong Tryz.f7.resultTypes.toList) : Bool) = true := by kernel_rfl
set_option maxRecDepth 100000 in
theorem k16 : ((Rows.fnHasNotRow.loops == (Tryz.f7.params.toList ++ Rows.fnHasNotSpec.plain.varTypes Tryz.prog).any (Tryz.prog.loopsFrom ·)) : Bool) = true := by kernel_rfl
set_option maxRecDepth 100000 in
theorem k17 : ((Rows.fnHasNotRow.wideKeys == (Tryz.f7.params.toList ++ Rows.fnHasNotSpec.plain.varTypes Tryz.prog ++ Tryz.f7.resultTypes.toList).any (Tryz.prog.wideKeysFrom ·)) : Bool) = true := by kernel_rfl
set_option maxRecDepth 100000 in
theorem k18 : (Rows.fnHasNotSpec.vars.all (Tryz.prog.varReadable ·) : Bool) = true := by kernel_rfl
set_option maxRecDepth 100000 in
theorem k19 : (Tryz.f7.resultTypes.all (fun t => Tryz.prog.readableRec t && decide (t < Tryz.prog.types.size)) : Bool) = true := by kernel_rfl
set_option maxRecDepth 100000 in
theorem k20 : ((Rows.fnHasNotRow.ifacesOut == Tryz.f7.resultTypes.toList.any (Tryz.prog.ifacesRec ·)) : Bool) = true := by kernel_rfl
set_option maxRecDepth 100000 in
theorem k21 : ((Rows.fnHasNotRow.loopsOut == Tryz.f7.resultTypes.toList.any (Tryz.prog.loopsFrom ·)) : Bool) = true := by kernel_rfl
set_option maxRecDepth 100000 in
theorem k22 : ((Rows.fnHasNotRow.plainKeys == Tryz.prog.plainKeys) : Bool) = true := by kernel_rfl
set_option maxRecDepth 100000 in
theorem k23 : (Rows.fnHasNotRow.shortTexts.isNone : Bool) = true := by kernel_rfl
set_option maxRecDepth 100000 in
theorem k24 : (Tryz.prog.stopsHeard : Bool) = true := by kernel_rfl
set_option maxRecDepth 100000 in
theorem k25 : (Tryz.prog.mayEnter : Bool) = true := by kernel_rfl
set_option maxRecDepth 100000 in
theorem k26 : ((Rows.fnHasNotRow.lifted == Tryz.prog.liftsFinal) : Bool) = true := by kernel_rfl
set_option maxRecDepth 100000 in
theorem k27 : ((Tryz.prog.make == some Rows.fnHasNotRow.make) : Bool) = true := by kernel_rfl
set_option maxRecDepth 100000 in
theorem k28 : ((Rows.fnHasNotRow.kinds == (if Rows.fnHasNotRow.domain.isEmpty then [] else Tryz.f7.params.toList.map fun t => match Tryz.prog.underlying t with | some (.int k) => some k | _ => none)) : Bool) = true := by kernel_rfl
set_option maxRecDepth 100000 in
theorem k29 : ((Rows.fnHasNotRow.pinned == Rows.fnHasNotRow.pinnedBy) : Bool) = true := by kernel_rfl
set_option maxRecDepth 100000 in
theorem k30 : ((Rows.fnHasNotRow.veiled == (Tryz.f7.params.toList ++ Rows.fnHasNotSpec.plain.varTypes Tryz.prog ++ Tryz.f7.resultTypes.toList).any (Tryz.prog.veiledRec ·)) : Bool) = true := by kernel_rfl
set_option maxRecDepth 100000 in
theorem k31 : (Rows.fnHasNotRow.veiledFits Tryz.prog Tryz.f7.params.toList (Tryz.f7.params.toList ++ Rows.fnHasNotSpec.plain.varTypes Tryz.prog ++ Tryz.f7.resultTypes.toList) : Bool) = true := by kernel_rfl
set_option maxRecDepth 100000 in
theorem closed : joinedFacts Tryz.prog 7 Tryz.f7 Rows.fnHasNotSpec Rows.fnHasNotRow = true := (and_mk (and_mk (and_mk (and_mk (and_mk (and_mk (and_mk (and_mk (and_mk (and_mk (and_mk (and_mk (and_mk (and_mk (and_mk (and_mk (and_mk (and_mk (and_mk (and_mk (and_mk (and_mk (and_mk (and_mk (and_mk (and_mk (and_mk (and_mk (and_mk (and_mk (and_mk k0 k1) k2) k3) k4) k5) k6) k7) k8) k9) k10) k11) k12) k13) k14) k15) k16) k17) k18) k19) k20) k21) k22) k23) k24) k25) k26) k27) k28) k29) k30) k31)
set_option maxRecDepth 100000 in
theorem named : Tryz.prog.funcNamed Rows.fnHasNotRow.func = some 7 := by kernel_rfl
set_option maxRecDepth 100000 in
theorem byText : Rows.fnHasNotRow.wfByText (OpenSpec.ofChange Rows.fnHasNotSpec) = true := by kernel_rfl
set_option maxRecDepth 100000 in
theorem looks : true = Tryz.prog.looks [] := by kernel_rfl
end Go.Proofs.YtnlndpgbhmkanaaGreatDoor.factsHasNot
