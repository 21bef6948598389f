/-
  The closed facts that the row of FnJoin asks, one by one. (Printed by wip/gen_row.py.)
-/
import Derived.Test.YtnlndpgbhmkanaaGreatDoorCards
import Derived.JoinedCond
import Derived.KernelRfl
namespace Go.Proofs.YtnlndpgbhmkanaaGreatDoor.factsJoin
open Go
theorem and_mk {a b : Bool} (h : a = true) (k : b = true) : (a && b) = true := by rw [h, k]; rfl
set_option maxRecDepth 100000 in
theorem k0 : (Rows.fnJoinRow.wf (OpenSpec.ofChange Rows.fnJoinSpec) : Bool) = true := by kernel_rfl
set_option maxRecDepth 100000 in
theorem k1 : (laidOutB Tryz.prog : Bool) = true := by kernel_rfl
set_option maxRecDepth 100000 in
theorem k2 : (mapsRowed Tryz.prog : Bool) = true := by kernel_rfl
set_option maxRecDepth 100000 in
theorem k3 : (Tryz.f9.params.all (Tryz.prog.readableRec ·) : Bool) = true := by kernel_rfl
set_option maxRecDepth 100000 in
theorem k4 : (namedTie Tryz.prog Rows.fnJoinRow.named Rows.fnJoinSpec.vars : Bool) = true := by kernel_rfl
set_option maxRecDepth 100000 in
theorem k5 : ((Rows.fnJoinRow.stops == []) : Bool) = true := by kernel_rfl
set_option maxRecDepth 100000 in
theorem k6 : ((Tryz.prog.stops == []) : Bool) = true := by kernel_rfl
set_option maxRecDepth 100000 in
theorem k7 : ((Rows.fnJoinRow.knobs == []) : Bool) = true := by kernel_rfl
set_option maxRecDepth 100000 in
theorem k8 : ((Tryz.prog.stopKnobs == []) : Bool) = true := by kernel_rfl
set_option maxRecDepth 100000 in
theorem k9 : ((Rows.fnJoinRow.inPlace == Tryz.prog.inPlace 9) : Bool) = true := by kernel_rfl
set_option maxRecDepth 100000 in
theorem k10 : ((Rows.fnJoinRow.unfollowed == Tryz.prog.unfollowed 9) : Bool) = true := by kernel_rfl
set_option maxRecDepth 100000 in
theorem k11 : ((Rows.fnJoinRow.recurses == Tryz.prog.recurses 9) : Bool) = true := by kernel_rfl
set_option maxRecDepth 100000 in
theorem k12 : ((Rows.fnJoinRow.named == Tryz.prog.varsNamed 9) : Bool) = true := by kernel_rfl
set_option maxRecDepth 100000 in
theorem k13 : ((Rows.fnJoinRow.maps == (Tryz.f9.params.toList ++ Rows.fnJoinSpec.plain.varTypes Tryz.prog).any (Tryz.prog.mapsRec ·)) : Bool) = true := by kernel_rfl
set_option maxRecDepth 100000 in
theorem k14 : ((Rows.fnJoinRow.ifaces == (Tryz.f9.params.toList ++ Rows.fnJoinSpec.plain.varTypes Tryz.prog).any (Tryz.prog.ifacesRec ·)) : Bool) = true := by kernel_rfl
set_option maxRecDepth 100000 in
theorem k15 : ((Rows.fnJoinRow.mapsOut == Tryz.prog.mapsAmong Tryz.f9.resultTypes.toList) : Bool) = true := by kernel_rfl
set_option maxRecDepth 100000 in
theorem k16 : ((Rows.fnJoinRow.loops == (Tryz.f9.params.toList ++ Rows.fnJoinSpec.plain.varTypes Tryz.prog).any (Tryz.prog.loopsFrom ·)) : Bool) = true := by kernel_rfl
set_option maxRecDepth 100000 in
theorem k17 : ((Rows.fnJoinRow.wideKeys == (Tryz.f9.params.toList ++ Rows.fnJoinSpec.plain.varTypes Tryz.prog ++ Tryz.f9.resultTypes.toList).any (Tryz.prog.wideKeysFrom ·)) : Bool) = true := by kernel_rfl
set_option maxRecDepth 100000 in
theorem k18 : (Rows.fnJoinSpec.vars.all (Tryz.prog.varReadable ·) : Bool) = true := by kernel_rfl
set_option maxRecDepth 100000 in
theorem k19 : (Tryz.f9.resultTypes.all (fun t => Tryz.prog.readableRec t && decide (t < Tryz.prog.types.size)) : Bool) = true := by kernel_rfl
set_option maxRecDepth 100000 in
theorem k20 : ((Rows.fnJoinRow.ifacesOut == Tryz.f9.resultTypes.toList.any (Tryz.prog.ifacesRec ·)) : Bool) = true := by kernel_rfl
set_option maxRecDepth 100000 in
theorem k21 : ((Rows.fnJoinRow.loopsOut == Tryz.f9.resultTypes.toList.any (Tryz.prog.loopsFrom ·)) : Bool) = true := by kernel_rfl
set_option maxRecDepth 100000 in
theorem k22 : ((Rows.fnJoinRow.plainKeys == Tryz.prog.plainKeys) : Bool) = true := by kernel_rfl
set_option maxRecDepth 100000 in
theorem k23 : (Rows.fnJoinRow.shortTexts.isNone : Bool) = true := by kernel_rfl
set_option maxRecDepth 100000 in
theorem k24 : (Tryz.prog.stopsHeard : Bool) = true := by kernel_rfl
set_option maxRecDepth 100000 in
theorem k25 : (Tryz.prog.mayEnter : Bool) = true := by kernel_rfl
set_option maxRecDepth 100000 in
theorem k26 : ((Rows.fnJoinRow.lifted == Tryz.prog.liftsFinal) : Bool) = true := by kernel_rfl
set_option maxRecDepth 100000 in
theorem k27 : ((Tryz.prog.make == some Rows.fnJoinRow.make) : Bool) = true := by kernel_rfl
set_option maxRecDepth 100000 in
theorem k28 : ((Rows.fnJoinRow.kinds == (if Rows.fnJoinRow.domain.isEmpty then [] else Tryz.f9.params.toList.map fun t => match Tryz.prog.underlying t with | some (.int k) => some k | _ => none)) : Bool) = true := by kernel_rfl
set_option maxRecDepth 100000 in
theorem k29 : ((Rows.fnJoinRow.pinned == Rows.fnJoinRow.pinnedBy) : Bool) = true := by kernel_rfl
set_option maxRecDepth 100000 in
theorem k30 : ((Rows.fnJoinRow.veiled == (Tryz.f9.params.toList ++ Rows.fnJoinSpec.plain.varTypes Tryz.prog ++ Tryz.f9.resultTypes.toList).any (Tryz.prog.veiledRec ·)) : Bool) = true := by kernel_rfl
set_option maxRecDepth 100000 in
theorem k31 : (Rows.fnJoinRow.veiledFits Tryz.prog Tryz.f9.params.toList (Tryz.f9.params.toList ++ Rows.fnJoinSpec.plain.varTypes Tryz.prog ++ Tryz.f9.resultTypes.toList) : Bool) = true := by kernel_rfl
set_option maxRecDepth 100000 in
theorem closed : joinedFacts Tryz.prog 9 Tryz.f9 Rows.fnJoinSpec Rows.fnJoinRow = true := (and_mk (and_mk (and_mk (and_mk (and_mk (and_mk (and_mk (and_mk (and_mk (and_mk (and_mk (and_mk (and_mk (and_mk (and_mk (and_mk (and_mk (and_mk (and_mk (and_mk (and_mk (and_mk (and_mk (and_mk (and_mk (and_mk (and_mk (and_mk (and_mk (and_mk (and_mk k0 k1) k2) k3) k4) k5) k6) k7) k8) k9) k10) k11) k12) k13) k14) k15) k16) k17) k18) k19) k20) k21) k22) k23) k24) k25) k26) k27) k28) k29) k30) k31)
set_option maxRecDepth 100000 in
theorem named : Tryz.prog.funcNamed Rows.fnJoinRow.func = some 9 := by kernel_rfl
set_option maxRecDepth 100000 in
theorem byText : Rows.fnJoinRow.wfByText (OpenSpec.ofChange Rows.fnJoinSpec) = true := by kernel_rfl
set_option maxRecDepth 100000 in
theorem looks : true = Tryz.prog.looks [] := by kernel_rfl
end Go.Proofs.YtnlndpgbhmkanaaGreatDoor.factsJoin
