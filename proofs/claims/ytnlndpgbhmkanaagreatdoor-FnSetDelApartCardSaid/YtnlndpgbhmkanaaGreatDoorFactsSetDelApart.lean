/-
  The closed facts that the row of FnSetDelApart asks, one by one. (Printed by wip/gen_row.py.)
-/
import Derived.Test.YtnlndpgbhmkanaaGreatDoorCards
import Derived.JoinedCond
import Derived.KernelRfl
namespace Go.Proofs.YtnlndpgbhmkanaaGreatDoor.factsSetDelApart
open Go
theorem and_mk {a b : Bool} (h : a = true) (k : b = true) : (a && b) = true := by rw [h, k]; rfl
set_option maxRecDepth 100000 in
theorem k0 : (Rows.fnSetDelApartRow.wf (OpenSpec.ofChange Rows.fnSetDelApartSpec) : Bool) = true := by kernel_rfl
set_option maxRecDepth 100000 in
theorem k1 : (laidOutB Tryz.prog : Bool) = true := by kernel_rfl
set_option maxRecDepth 100000 in
theorem k2 : (mapsRowed Tryz.prog : Bool) = true := by kernel_rfl
set_option maxRecDepth 100000 in
theorem k3 : (Tryz.f8.params.all (Tryz.prog.readableRec ·) : Bool) = true := by kernel_rfl
set_option maxRecDepth 100000 in
theorem k4 : (namedTie Tryz.prog Rows.fnSetDelApartRow.named Rows.fnSetDelApartSpec.vars : Bool) = true := by kernel_rfl
set_option maxRecDepth 100000 in
theorem k5 : ((Rows.fnSetDelApartRow.stops == []) : Bool) = true := by kernel_rfl
set_option maxRecDepth 100000 in
theorem k6 : ((Tryz.prog.stops == []) : Bool) = true := by kernel_rfl
set_option maxRecDepth 100000 in
theorem k7 : ((Rows.fnSetDelApartRow.knobs == []) : Bool) = true := by kernel_rfl
set_option maxRecDepth 100000 in
theorem k8 : ((Tryz.prog.stopKnobs == []) : Bool) = true := by kernel_rfl
set_option maxRecDepth 100000 in
theorem k9 : ((Rows.fnSetDelApartRow.inPlace == Tryz.prog.inPlace 8) : Bool) = true := by kernel_rfl
set_option maxRecDepth 100000 in
theorem k10 : ((Rows.fnSetDelApartRow.unfollowed == Tryz.prog.unfollowed 8) : Bool) = true := by kernel_rfl
set_option maxRecDepth 100000 in
theorem k11 : ((Rows.fnSetDelApartRow.recurses == Tryz.prog.recurses 8) : Bool) = true := by kernel_rfl
set_option maxRecDepth 100000 in
theorem k12 : ((Rows.fnSetDelApartRow.named == Tryz.prog.varsNamed 8) : Bool) = true := by kernel_rfl
set_option maxRecDepth 100000 in
theorem k13 : ((Rows.fnSetDelApartRow.maps == (Tryz.f8.params.toList ++ Rows.fnSetDelApartSpec.plain.varTypes Tryz.prog).any (Tryz.prog.mapsRec ·)) : Bool) = true := by kernel_rfl
set_option maxRecDepth 100000 in
theorem k14 : ((Rows.fnSetDelApartRow.ifaces == (Tryz.f8.params.toList ++ Rows.fnSetDelApartSpec.plain.varTypes Tryz.prog).any (Tryz.prog.ifacesRec ·)) : Bool) = true := by kernel_rfl
set_option maxRecDepth 100000 in
theorem k15 : ((Rows.fnSetDelApartRow.mapsOut == Tryz.prog.mapsAmong Tryz.f8.resultTypes.toList) : Bool) = true := by kernel_rfl
set_option maxRecDepth 100000 in
theorem k16 : ((Rows.fnSetDelApartRow.loops == (Tryz.f8.params.toList ++ Rows.fnSetDelApartSpec.plain.varTypes Tryz.prog).any (Tryz.prog.loopsFrom ·)) : Bool) = true := by kernel_rfl
set_option maxRecDepth 100000 in
theorem k17 : ((Rows.fnSetDelApartRow.wideKeys == (Tryz.f8.params.toList ++ Rows.fnSetDelApartSpec.plain.varTypes Tryz.prog ++ Tryz.f8.resultTypes.toList).any (Tryz.prog.wideKeysFrom ·)) : Bool) = true := by kernel_rfl
set_option maxRecDepth 100000 in
theorem k18 : (Rows.fnSetDelApartSpec.vars.all (Tryz.prog.varReadable ·) : Bool) = true := by kernel_rfl
set_option maxRecDepth 100000 in
theorem k19 : (Tryz.f8.resultTypes.all (fun t => Tryz.prog.readableRec t && decide (t < Tryz.prog.types.size)) : Bool) = true := by kernel_rfl
set_option maxRecDepth 100000 in
theorem k20 : ((Rows.fnSetDelApartRow.ifacesOut == Tryz.f8.resultTypes.toList.any (Tryz.prog.ifacesRec ·)) : Bool) = true := by kernel_rfl
set_option maxRecDepth 100000 in
theorem k21 : ((Rows.fnSetDelApartRow.loopsOut == Tryz.f8.resultTypes.toList.any (Tryz.prog.loopsFrom ·)) : Bool) = true := by kernel_rfl
set_option maxRecDepth 100000 in
theorem k22 : ((Rows.fnSetDelApartRow.plainKeys == Tryz.prog.plainKeys) : Bool) = true := by kernel_rfl
set_option maxRecDepth 100000 in
theorem k23 : (Rows.fnSetDelApartRow.shortTexts.isNone : Bool) = true := by kernel_rfl
set_option maxRecDepth 100000 in
theorem k24 : (Tryz.prog.stopsHeard : Bool) = true := by kernel_rfl
set_option maxRecDepth 100000 in
theorem k25 : (Tryz.prog.mayEnter : Bool) = true := by kernel_rfl
set_option maxRecDepth 100000 in
theorem k26 : ((Rows.fnSetDelApartRow.lifted == Tryz.prog.liftsFinal) : Bool) = true := by kernel_rfl
set_option maxRecDepth 100000 in
theorem k27 : ((Tryz.prog.make == some Rows.fnSetDelApartRow.make) : Bool) = true := by kernel_rfl
set_option maxRecDepth 100000 in
theorem k28 : ((Rows.fnSetDelApartRow.kinds == (if Rows.fnSetDelApartRow.domain.isEmpty then [] else Tryz.f8.params.toList.map fun t => match Tryz.prog.underlying t with | some (.int k) => some k | _ => none)) : Bool) = true := by kernel_rfl
set_option maxRecDepth 100000 in
theorem k29 : ((Rows.fnSetDelApartRow.pinned == Rows.fnSetDelApartRow.pinnedBy) : Bool) = true := by kernel_rfl
set_option maxRecDepth 100000 in
theorem k30 : ((Rows.fnSetDelApartRow.veiled == (Tryz.f8.params.toList ++ Rows.fnSetDelApartSpec.plain.varTypes Tryz.prog ++ Tryz.f8.resultTypes.toList).any (Tryz.prog.veiledRec ·)) : Bool) = true := by kernel_rfl
set_option maxRecDepth 100000 in
theorem k31 : (Rows.fnSetDelApartRow.veiledFits Tryz.prog Tryz.f8.params.toList (Tryz.f8.params.toList ++ Rows.fnSetDelApartSpec.plain.varTypes Tryz.prog ++ Tryz.f8.resultTypes.toList) : Bool) = true := by kernel_rfl
set_option maxRecDepth 100000 in
theorem closed : joinedFacts Tryz.prog 8 Tryz.f8 Rows.fnSetDelApartSpec Rows.fnSetDelApartRow = true := (and_mk (and_mk (and_mk (and_mk (and_mk (and_mk (and_mk (and_mk (and_mk (and_mk (and_mk (and_mk (and_mk (and_mk (and_mk (and_mk (and_mk (and_mk (and_mk (and_mk (and_mk (and_mk (and_mk (and_mk (and_mk (and_mk (and_mk (and_mk (and_mk (and_mk (and_mk k0 k1) k2) k3) k4) k5) k6) k7) k8) k9) k10) k11) k12) k13) k14) k15) k16) k17) k18) k19) k20) k21) k22) k23) k24) k25) k26) k27) k28) k29) k30) k31)
set_option maxRecDepth 100000 in
theorem named : Tryz.prog.funcNamed Rows.fnSetDelApartRow.func = some 8 := by kernel_rfl
set_option maxRecDepth 100000 in
theorem byText : Rows.fnSetDelApartRow.wfByText (OpenSpec.ofChange Rows.fnSetDelApartSpec) = true := by kernel_rfl
set_option maxRecDepth 100000 in
theorem looks : true = Tryz.prog.looks [] := by kernel_rfl
end Go.Proofs.YtnlndpgbhmkanaaGreatDoor.factsSetDelApart
