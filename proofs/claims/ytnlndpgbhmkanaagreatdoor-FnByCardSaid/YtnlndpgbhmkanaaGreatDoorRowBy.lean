/-
  FnBy: sort_by, group_by, unique_by, min_by and max_by of elements and their keys answer as the specification says: the law returns true for every two lists of values that it is handed.
  CONDITIONS: none beyond the form's own: the two arguments are whatever values of the types, and the package-level tables of the library hold what their initialisers lay.
-/
import Derived.Test.YtnlndpgbhmkanaaGreatDoorCards
import Derived.Test.YtnlndpgbhmkanaaGreatDoorTie
import Derived.Test.YtnlndpgbhmkanaaGreatDoorLawB
import Derived.Test.YtnlndpgbhmkanaaGreatDoorNoGo
import Derived.Test.YtnlndpgbhmkanaaGreatDoorFactsBy
namespace Go.Proofs.YtnlndpgbhmkanaaGreatDoor.fnBy
set_option linter.unusedSimpArgs false
set_option linter.unusedVariables false
set_option linter.unnecessarySimpa false
open Go Go.Gj Go.ChangeShapes Go.WideShapes Go.ChangeAt Go.RowKit

set_option maxRecDepth 100000 in
theorem contract (H : Type) (enc : TypeId × Value → H) (W : World) (base : Nat) (args : Array Value) (ds gs : List (DataW H)) (before : List MemPlace)
    (hval : ∀ (j : Nat) t v, Tryz.f4.params[j]? = some t → args[j]? = some v → Value.okWide Tryz.prog W .any base t v)
    (hW : DataW.Whole enc Tryz.prog Tryz.f4.params.toList Rows.fnBySpec.vars false W args.toList ds gs before)
    (hz : (DataW.weightsEach Tryz.prog (Tryz.f4.params.toList ++ (OpenSpec.ofChange Rows.fnBySpec).bare.plain.varTypes Tryz.prog) (ds ++ gs)).all (· ≤ reachBytes) = true)
    (hT : Tabs W) :
    Calls Tryz.prog 4 args W fun e W' => ∃ v, e = .returned v ∧ Rows.fnBySpec.post enc Tryz.prog Tryz.f4 false true false false W args v W' := by
  have hW' := hW
  obtain ⟨p, q, hA0, hV, rfl, hfz, hnd⟩ := hW
  have hA : DataW.TrodAll enc Tryz.prog W 0 (fun _ => true) true Tryz.f4.params.toList args.toList ds p := hA0
  rw [Tryz.params4] at hA hval hz
  obtain ⟨v0, vs0, d0, ds0, p0, q0, hargs, rfl, rfl, h0, r0⟩ := trodAll_cons hA
  obtain ⟨v1, vs1, d1, ds1, p1, q1, rfl, rfl, rfl, h1, r1⟩ := trodAll_cons r0
  obtain ⟨rfl, rfl, rfl⟩ := trodAll_nil r1
  obtain rfl : args = #[v0, v1] := by cases args; simp_all
  obtain ⟨rfl, rfl⟩ := trodVars_none hV
  obtain ⟨x0, hx0⟩ := open_Vs (hval 0 23 v0 rfl rfl) h0 (weigh hz (j := 0) rfl rfl)
  obtain ⟨x1, hx1⟩ := open_Vs (hval 1 23 v1 rfl rfl) h1 (weigh hz (j := 1) rfl rfl)
  clear hA0 hA r0 r1 hz
  simp only [List.append_nil] at hW'
  have hlt := hW'.lt
  refine (FnBy_ok x0 x1 W (allB W) v0 v1 hT (fun _ h => h) hx0 hx1).mono fun e W' ⟨he, hb⟩ => ?_
  subst he
  have hr23 : Tryz.prog.readableRec 23 = true := by kernel_rfl
  have hs23 : 23 < Tryz.prog.types.size := of_decide_eq_true (by kernel_rfl)
  exact ⟨_, rfl, post_of_below (pa := p0 ++ (p1 ++ [])) (pv := []) hW' (fun _ _ _ => trodAll_cons_mk (shut_bool Tryz.underlying4 _) trodAll_mk0)
    (fun sp hsp => (trodAll_cons_mk (trod_stays hr23 hs23 h0 hb (fun x hx => hlt x (by simp [hx])) (fun x hx => hsp x (by simp [hx]))) (trodAll_cons_mk (trod_stays hr23 hs23 h1 hb (fun x hx => hlt x (by simp [hx])) (fun x hx => hsp x (by simp [hx]))) trodAll_mk0)))
    (fun _ _ => rfl) (by simp) hb (ok_one (by kernel_rfl) rfl (okWide_bool_mk Tryz.underlying4 _))⟩

set_option maxRecDepth 100000 in
theorem laid_met (os : Os) : laidMet Tryz.prog Rows.fnByRow.laid ((World.laidAll Tryz.prog os Rows.fnByRow.laid).forCall (fun _ _ => 0) ⟨#[], #[.slice none 0 0, .slice none 0 0], []⟩).memory :=
  laidMet_laidAll _ (by kernel_rfl) (by kernel_rfl)

set_option maxRecDepth 100000 in
theorem reads (os : Os) {H : Type} (enc : TypeId × Value → H) : ∃ places, DataW.whole enc Tryz.prog ((World.laidAll Tryz.prog os Rows.fnByRow.laid).forCall (fun _ _ => 0) ⟨#[], #[.slice none 0 0, .slice none 0 0], []⟩).memory Tryz.f4.params.toList Rows.fnBySpec.vars false #[.slice none 0 0, .slice none 0 0].toList 8 =
    some ([.nil, .nil], [], places) :=
  ⟨[], by kernel_rfl⟩

set_option maxRecDepth 100000 in
theorem lifted (os : Os) (started : os.Started) (H : Type) (enc : TypeId × Value → H) (F : Stop.Interp) :
    ReturnsInHanded {} Tryz.checked os 4 .any ((OpenSpec.ofChange Rows.fnBySpec).preRow enc Tryz.prog Tryz.f4 Rows.fnByRow.domain false Rows.fnByRow.laid) (((OpenSpec.ofChange Rows.fnBySpec).at F).post enc Tryz.prog Tryz.f4 false true false false) := by
  obtain ⟨places, hx⟩ := reads os enc
  refine returnsInHanded_of_row (C := Tryz.checked) (s := OpenSpec.ofChange Rows.fnBySpec) own started (by kernel_rfl) Tryz.func4
    (witness_row_shaped (enc := enc) (C := Tryz.checked) false (World.laidAll Tryz.prog os Rows.fnByRow.laid) #[.slice none 0 0, .slice none 0 0] (World.laidAll_os _ _ _) (World.shaped_of_ZipB (by kernel_rfl) (by kernel_rfl)) (by kernel_rfl)
      (OpenSpec.preRow_of_cond 8 hx (by kernel_rfl) (fun k hk => by cases hk) (by kernel_rfl) (laid_met os))) ?_
  intro W base args ds gs before hval hW _ _ hz hL _ _
  exact contract H enc W base args ds gs before hval hW hz (utf8Tabs_of_readsT (U8Types.of196 Tryz.laysValid) u8x (Lib.laidMet.reads hL (List.mem_of_getElem? (i := 14) (by kernel_rfl))) (Lib.laidMet.reads hL (List.mem_of_getElem? (i := 9) (by kernel_rfl))))

set_option maxRecDepth 100000 in
theorem inst : Tryz.f4.isInstance Tryz.prog Rows.fnByRow.origin Rows.fnByRow.targs := of_decide_eq_true (by kernel_rfl)
set_option maxRecDepth 100000 in
theorem wrap : Tryz.f4.isWrapper Tryz.prog Rows.fnByRow.wrapper Rows.fnByRow.mainSum := by
  unfold Func.isWrapper; first | (rw [if_pos (by decide +kernel)]; kernel_rfl) | (rw [if_neg (by decide +kernel)]; exact ⟨rfl, rfl⟩)

set_option maxRecDepth 100000 in
theorem said : Rows.FnBySaid :=
  OpenClaim.holds_of_cond 4 Tryz.f4 rfl rfl rfl rfl rfl rfl rfl ⟨rfl, rfl, rfl, rfl, rfl⟩ rfl rfl rfl rfl rfl factsBy.named Tryz.func4 factsBy.closed inst wrap
    (fun os started H enc _ F => by rw [OpenClaim.pre_eq_preRow]; exact lifted os started H enc F)

set_option maxRecDepth 100000 in
theorem stand23 : Tryz.prog.wantsStandIn 23 = false := by kernel_rfl

set_option maxRecDepth 100000 in
/-- No parameter wants a stand-in; the program's own looks are on: what the card asks. -/
theorem plain (f : FuncId) (fn : Func) (hf : Tryz.pinned.checked.prog.funcNamed Rows.fnByRow.func = some f) (hfn : Tryz.pinned.checked.prog.funcs[f]? = some fn) :
    true = Tryz.pinned.checked.prog.looks [] ∧ ∀ (j : Nat) t, fn.params[j]? = some t → Tryz.pinned.checked.prog.wantsStandIn t = false := by
  obtain rfl : f = 4 := Option.some.inj (factsBy.named.symm.trans hf) |>.symm
  obtain rfl : fn = Tryz.f4 := (Option.some.inj (Tryz.func4.symm.trans hfn)).symm
  refine ⟨factsBy.looks, fun j t ht => ?_⟩
  rw [Tryz.params4] at ht
  obtain rfl : t = 23 := by simpa using Array.mem_of_getElem? ht
  exact stand23

set_option maxRecDepth 100000 in
theorem card : Rows.FnByCardSaid :=
  Claim7.holds_tied_plain_at .later [] _ _ _ _ said (fun _ h => by cases h) factsBy.byText (fun _ h => by cases h) fnBy_row_tie rfl ⟨rfl, rfl⟩ (by kernel_rfl) rfl plain (goesBy_none noGo rfl)
#print axioms card
end Go.Proofs.YtnlndpgbhmkanaaGreatDoor.fnBy
