/-
  The closed facts that the row of FnGetFold asks, one by one. (Printed by wip/gen_row.py.)
-/
import Derived.Test.YtnlndpgbhmkanaaGreatDoorCards
import Derived.JoinedCond
import Derived.KernelRfl
namespace Go.Proofs.YtnlndpgbhmkanaaGreatDoor.factsGetFold
open Go
theorem and_mk {a b : Bool} (h : a = true) (k : b = true) : (a && b) = true := by rw [h, k]; rfl
set_option maxRecDepth 100000 in
theorem k0 : (Rows.fnGetFoldRow.wf (OpenSpec.ofChange Rows.fnGetFoldSpec) : Bool) = true := by kernel_rfl
set_option maxRecDepth 100000 in
theorem k1 : (laidOutB Tryz.prog : Bool) = true := by kernel_rfl
set_option maxRecDepth 100000 in
theorem k2 : (mapsRowed Tryz.prog : Bool) = true := by kernel_rfl
set_option maxRecDepth 100000 in
theorem k3 : (Tryz.f3.params.all (Tryz.prog.readableRec ·) : Bool) = true := by kernel_rfl
set_option maxRecDepth 100000 in
theorem k4 : (namedTie Tryz.prog Rows.fnGetFoldRow.named Rows.fnGetFoldSpec.vars : Bool) = true := by kernel_rfl
set_option maxRecDepth 100000 in
theorem k5 : ((Rows.fnGetFoldRow.stops == []) : Bool) = true := by kernel_rfl
set_option maxRecDepth 100000 in
theorem k6 : ((Tryz.prog.stops == []) : Bool) = true := by kernel_rfl
set_option maxRecDepth 100000 in
theorem k7 : ((Rows.fnGetFoldRow.knobs == []) : Bool) = true := by kernel_rfl
set_option maxRecDepth 100000 in
theorem k8 : ((Tryz.prog.stopKnobs == []) : Bool) = true := by kernel_rfl
set_option maxRecDepth 100000 in
theorem k9 : ((Rows.fnGetFoldRow.inPlace == Tryz.prog.inPlace 3) : Bool) = true := by kernel_rfl
set_option maxRecDepth 100000 in
theorem k10 : ((Rows.fnGetFoldRow.unfollowed == Tryz.prog.unfollowed 3) : Bool) = true := by kernel_rfl
set_option maxRecDepth 100000 in
theorem k11 : ((Rows.fnGetFoldRow.recurses == Tryz.prog.recurses 3) : Bool) = true := by kernel_rfl
set_option maxRecDepth 100000 in
theorem k12 : ((Rows.fnGetFoldRow.named == Tryz.prog.varsNamed 3) : Bool) = true := by kernel_rfl
set_option maxRecDepth 100000 in
theorem k13 : ((Rows.fnGetFoldRow.maps == (Tryz.f3.params.toList ++ Rows.fnGetFoldSpec.plain.varTypes Tryz.prog).any (Tryz.prog.mapsRec ·)) : Bool) = true := by kernel_rfl
set_option maxRecDepth 100000 in
theorem k14 : ((Rows.fnGetFoldRow.ifaces == (Tryz.f3.params.toList ++ Rows.fnGetFoldSpec.plain.varTypes Tryz.prog).any (Tryz.prog.ifacesRec ·)) : Bool) = true := by kernel_rfl
set_option maxRecDepth 100000 in
theorem k15 : ((Rows.fnGetFoldRow.mapsOut == Tryz.prog.mapsAmong Tryz.f3.resultTypes.toList) : Bool) = true := by kernel_rfl
set_option maxRecDepth 100000 in
theorem k16 : ((Rows.fnGetFoldRow.loops == (Tryz.f3.params.toList ++ Rows.fnGetFoldSpec.plain.varTypes Tryz.prog).any (Tryz.prog.loopsFrom ·)) : Bool) = true := by kernel_rfl
set_option maxRecDepth 100000 in
theorem k17 : ((Rows.fnGetFoldRow.wideKeys == (Tryz.f3.params.toList ++ Rows.fnGetFoldSpec.plain.varTypes Tryz.prog ++ Tryz.f3.resultTypes.toList).any (Tryz.prog.wideKeysFrom ·)) : Bool) = true := by kernel_rfl
set_option maxRecDepth 100000 in
theorem k18 : (Rows.fnGetFoldSpec.vars.all (Tryz.prog.varReadable ·) : Bool) = true := by kernel_rfl
set_option maxRecDepth 100000 in
theorem k19 : (Tryz.f3.resultTypes.all (fun t => Tryz.prog.readableRec t && decide (t < Tryz.prog.types.size)) : Bool) = true := by kernel_rfl
set_option maxRecDepth 100000 in
theorem k20 : ((Rows.fnGetFoldRow.ifacesOut == Tryz.f3.resultTypes.toList.any (Tryz.prog.ifacesRec ·)) : Bool) = true := by kernel_rfl
set_option maxRecDepth 100000 in
theorem k21 : ((Rows.fnGetFoldRow.loopsOut == Tryz.f3.resultTypes.toList.any (Tryz.prog.loopsFrom ·)) : Bool) = true := by kernel_rfl
set_option maxRecDepth 100000 in
theorem k22 : ((Rows.fnGetFoldRow.plainKeys == Tryz.prog.plainKeys) : Bool) = true := by kernel_rfl
set_option maxRecDepth 100000 in
theorem k23 : (Rows.fnGetFoldRow.shortTexts.isNone : Bool) = true := by kernel_rfl
set_option maxRecDepth 100000 in
theorem k24 : (Tryz.prog.stopsHeard : Bool) = true := by kernel_rfl
set_option maxRecDepth 100000 in
theorem k25 : (Tryz.prog.mayEnter : Bool) = true := by kernel_rfl
set_option maxRecDepth 100000 in
theorem k26 : ((Rows.fnGetFoldRow.lifted == Tryz.prog.liftsFinal) : Bool) = true := by kernel_rfl
set_option maxRecDepth 100000 in
theorem k27 : ((Tryz.prog.make == some Rows.fnGetFoldRow.make) : Bool) = true := by kernel_rfl
set_option maxRecDepth 100000 in
theorem k28 : ((Rows.fnGetFoldRow.kinds == (if Rows.fnGetFoldRow.domain.isEmpty then [] else Tryz.f3.params.toList.map fun t => match Tryz.prog.underlying t with | some (.int k) => some k | _ => none)) : Bool) = true := by kernel_rfl
set_option maxRecDepth 100000 in
theorem k29 : ((Rows.fnGetFoldRow.pinned == Rows.fnGetFoldRow.pinnedBy) : Bool) = true := by kernel_rfl
set_option maxRecDepth 100000 in
theorem k30 : ((Rows.fnGetFoldRow.veiled == (Tryz.f3.params.toList ++ Rows.fnGetFoldSpec.plain.varTypes Tryz.prog ++ Tryz.f3.resultTypes.toList).any (Tryz.prog.veiledRec ·)) : Bool) = true := by kernel_rfl
set_option maxRecDepth 100000 in
theorem k31 : (Rows.fnGetFoldRow.veiledFits Tryz.prog Tryz.f3.params.toList (Tryz.f3.params.toList ++ Rows.fnGetFoldSpec.plain.varTypes Tryz.prog ++ Tryz.f3.resultTypes.toList) : Bool) = true := by kernel_rfl
set_option maxRecDepth 100000 in
theorem closed : joinedFacts Tryz.prog 3 Tryz.f3 Rows.fnGetFoldSpec Rows.fnGetFoldRow = true := (and_mk (and_mk (and_mk (and_mk (and_mk (and_mk (and_mk (and_mk (and_mk (and_mk (and_mk (and_mk (and_mk (and_mk (and_mk (and_mk (and_mk (and_mk (and_mk (and_mk (and_mk (and_mk (and_mk (and_mk (and_mk (and_mk (and_mk (and_mk (and_mk (and_mk (and_mk k0 k1) k2) k3) k4) k5) k6) k7) k8) k9) k10) k11) k12) k13) k14) k15) k16) k17) k18) k19) k20) k21) k22) k23) k24) k25) k26) k27) k28) k29) k30) k31)
set_option maxRecDepth 100000 in
theorem named : Tryz.prog.funcNamed Rows.fnGetFoldRow.func = some 3 := by kernel_rfl
set_option maxRecDepth 100000 in
theorem byText : Rows.fnGetFoldRow.wfByText (OpenSpec.ofChange Rows.fnGetFoldSpec) = true := by kernel_rfl
set_option maxRecDepth 100000 in
theorem looks : true = Tryz.prog.looks [] := by kernel_rfl
end Go.Proofs.YtnlndpgbhmkanaaGreatDoor.factsGetFold
