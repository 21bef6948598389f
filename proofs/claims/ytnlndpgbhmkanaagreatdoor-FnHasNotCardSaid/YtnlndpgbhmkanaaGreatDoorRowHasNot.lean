/-
  FnHasNot: at a key that an object has not, and at an index behind an array's end, stands null; set there, it is there: the law returns true for every two values that it is handed.
  CONDITIONS: none beyond the form's own: the two arguments are whatever values of the type, and the package-level tables of the library hold what their initialisers lay.
-/
import Derived.Test.YtnlndpgbhmkanaaGreatDoorCards
import Derived.Test.YtnlndpgbhmkanaaGreatDoorTie
import Derived.Test.YtnlndpgbhmkanaaGreatDoorLawHN
import Derived.Test.YtnlndpgbhmkanaaGreatDoorNoGo
import Derived.Test.YtnlndpgbhmkanaaGreatDoorFactsHasNot
namespace Go.Proofs.YtnlndpgbhmkanaaGreatDoor.fnHasNot
set_option linter.unusedSimpArgs false
set_option linter.unusedVariables false
set_option linter.unnecessarySimpa false
open Go Go.Gj Go.ChangeShapes Go.WideShapes Go.ChangeAt Go.RowKit

set_option maxRecDepth 100000 in
theorem contract (H : Type) (enc : TypeId × Value → H) (W : World) (base : Nat) (args : Array Value) (ds gs : List (DataW H)) (before : List MemPlace)
    (hval : ∀ (j : Nat) t v, Tryz.f7.params[j]? = some t → args[j]? = some v → Value.okWide Tryz.prog W .any base t v)
    (hW : DataW.Whole enc Tryz.prog Tryz.f7.params.toList Rows.fnHasNotSpec.vars false W args.toList ds gs before)
    (hz : (DataW.weightsEach Tryz.prog (Tryz.f7.params.toList ++ (OpenSpec.ofChange Rows.fnHasNotSpec).bare.plain.varTypes Tryz.prog) (ds ++ gs)).all (· ≤ reachBytes) = true)
    (hT : Tabs W) :
    Calls Tryz.prog 7 args W fun e W' => ∃ v, e = .returned v ∧ Rows.fnHasNotSpec.post enc Tryz.prog Tryz.f7 false true false false W args v W' := by
  have hW' := hW
  obtain ⟨p, q, hA0, hV, rfl, hfz, hnd⟩ := hW
  have hA : DataW.TrodAll enc Tryz.prog W 0 (fun _ => true) true Tryz.f7.params.toList args.toList ds p := hA0
  rw [Tryz.params7] at hA hval hz
  obtain ⟨v0, vs0, d0, ds0, p0, q0, hargs, rfl, rfl, h0, r0⟩ := trodAll_cons hA
  obtain ⟨v1, vs1, d1, ds1, p1, q1, rfl, rfl, rfl, h1, r1⟩ := trodAll_cons r0
  obtain ⟨rfl, rfl, rfl⟩ := trodAll_nil r1
  obtain rfl : args = #[v0, v1] := by cases args; simp_all
  obtain ⟨rfl, rfl⟩ := trodVars_none hV
  obtain ⟨x0, hx0⟩ := open_V (hval 0 26 v0 rfl rfl) h0 (weigh hz (j := 0) rfl rfl)
  obtain ⟨x1, hx1⟩ := open_V (hval 1 26 v1 rfl rfl) h1 (weigh hz (j := 1) rfl rfl)
  clear hA0 hA r0 r1 hz
  simp only [List.append_nil] at hW'
  have hlt := hW'.lt
  refine (FnHasNot_ok x0 x1 W (allB W) v0 v1 hT (fun _ h => h) hx0 hx1).mono fun e W' ⟨he, hb⟩ => ?_
  subst he
  have hr26 : Tryz.prog.readableRec 26 = true := by kernel_rfl
  have hs26 : 26 < Tryz.prog.types.size := of_decide_eq_true (by kernel_rfl)
  exact ⟨_, rfl, post_of_below (pa := p0 ++ (p1 ++ [])) (pv := []) hW' (fun _ _ _ => trodAll_cons_mk (shut_bool Tryz.underlying4 _) trodAll_mk0)
    (fun sp hsp => trodAll_cons_mk (trod_stays hr26 hs26 h0 hb (fun x hx => hlt x (by simp [hx])) (fun x hx => hsp x (by simp [hx]))) (trodAll_cons_mk (trod_stays hr26 hs26 h1 hb (fun x hx => hlt x (by simp [hx])) (fun x hx => hsp x (by simp [hx]))) trodAll_mk0))
    (fun _ _ => rfl) (by simp) hb (ok_one (by kernel_rfl) rfl (okWide_bool_mk Tryz.underlying4 _))⟩

/-- The record of noughts. -/
def zeroV : Value := .agg #[.int .i64 0, .int .i64 0, .string .empty, .slice none 0 0, .slice none 0 0, .slice none 0 0]

set_option maxRecDepth 100000 in
theorem laid_met (os : Os) : laidMet Tryz.prog Rows.fnHasNotRow.laid ((World.laidAll Tryz.prog os Rows.fnHasNotRow.laid).forCall (fun _ _ => 0) ⟨#[], #[zeroV, zeroV], []⟩).memory :=
  laidMet_laidAll _ (by kernel_rfl) (by kernel_rfl)

set_option maxRecDepth 100000 in
theorem reads (os : Os) {H : Type} (enc : TypeId × Value → H) : ∃ places, DataW.whole enc Tryz.prog ((World.laidAll Tryz.prog os Rows.fnHasNotRow.laid).forCall (fun _ _ => 0) ⟨#[], #[zeroV, zeroV], []⟩).memory Tryz.f7.params.toList Rows.fnHasNotSpec.vars false #[zeroV, zeroV].toList 8 =
    some ([.agg [.lit (.int .i64 0), .lit (.int .i64 0), .lit (.string []), .nil, .nil, .nil], .agg [.lit (.int .i64 0), .lit (.int .i64 0), .lit (.string []), .nil, .nil, .nil]], [], places) :=
  ⟨[], by kernel_rfl⟩

set_option maxRecDepth 100000 in
theorem lifted (os : Os) (started : os.Started) (H : Type) (enc : TypeId × Value → H) (F : Stop.Interp) :
    ReturnsInHanded {} Tryz.checked os 7 .any ((OpenSpec.ofChange Rows.fnHasNotSpec).preRow enc Tryz.prog Tryz.f7 Rows.fnHasNotRow.domain false Rows.fnHasNotRow.laid) (((OpenSpec.ofChange Rows.fnHasNotSpec).at F).post enc Tryz.prog Tryz.f7 false true false false) := by
  obtain ⟨places, hx⟩ := reads os enc
  refine returnsInHanded_of_row (C := Tryz.checked) (s := OpenSpec.ofChange Rows.fnHasNotSpec) own started (by kernel_rfl) Tryz.func7
    (witness_row_shaped (enc := enc) (C := Tryz.checked) false (World.laidAll Tryz.prog os Rows.fnHasNotRow.laid) #[zeroV, zeroV] (World.laidAll_os _ _ _) (World.shaped_of_ZipB (by kernel_rfl) (by kernel_rfl)) (by kernel_rfl)
      (OpenSpec.preRow_of_cond 8 hx (by kernel_rfl) (fun k hk => by cases hk) (by kernel_rfl) (laid_met os))) ?_
  intro W base args ds gs before hval hW _ _ hz hL _ _
  exact contract H enc W base args ds gs before hval hW hz (utf8Tabs_of_readsT (U8Types.of196 Tryz.laysValid) u8x (Lib.laidMet.reads hL (List.mem_of_getElem? (i := 14) (by kernel_rfl))) (Lib.laidMet.reads hL (List.mem_of_getElem? (i := 9) (by kernel_rfl))))

set_option maxRecDepth 100000 in
theorem inst : Tryz.f7.isInstance Tryz.prog Rows.fnHasNotRow.origin Rows.fnHasNotRow.targs := of_decide_eq_true (by kernel_rfl)
set_option maxRecDepth 100000 in
theorem wrap : Tryz.f7.isWrapper Tryz.prog Rows.fnHasNotRow.wrapper Rows.fnHasNotRow.mainSum := by
  unfold Func.isWrapper; first | (rw [if_pos (by decide +kernel)]; kernel_rfl) | (rw [if_neg (by decide +kernel)]; exact ⟨rfl, rfl⟩)

set_option maxRecDepth 100000 in
theorem said : Rows.FnHasNotSaid :=
  OpenClaim.holds_of_cond 7 Tryz.f7 rfl rfl rfl rfl rfl rfl rfl ⟨rfl, rfl, rfl, rfl, rfl⟩ rfl rfl rfl rfl rfl factsHasNot.named Tryz.func7 factsHasNot.closed inst wrap
    (fun os started H enc _ F => by rw [OpenClaim.pre_eq_preRow]; exact lifted os started H enc F)

set_option maxRecDepth 100000 in
theorem stand26 : Tryz.prog.wantsStandIn 26 = false := by kernel_rfl

set_option maxRecDepth 100000 in
/-- No parameter wants a stand-in; the program's own looks are on: what the card asks. -/
theorem plain (f : FuncId) (fn : Func) (hf : Tryz.pinned.checked.prog.funcNamed Rows.fnHasNotRow.func = some f) (hfn : Tryz.pinned.checked.prog.funcs[f]? = some fn) :
    true = Tryz.pinned.checked.prog.looks [] ∧ ∀ (j : Nat) t, fn.params[j]? = some t → Tryz.pinned.checked.prog.wantsStandIn t = false := by
  obtain rfl : f = 7 := Option.some.inj (factsHasNot.named.symm.trans hf) |>.symm
  obtain rfl : fn = Tryz.f7 := (Option.some.inj (Tryz.func7.symm.trans hfn)).symm
  refine ⟨factsHasNot.looks, fun j t ht => ?_⟩
  rw [Tryz.params7] at ht
  obtain rfl : t = 26 := by simpa using Array.mem_of_getElem? ht
  exact stand26

set_option maxRecDepth 100000 in
theorem card : Rows.FnHasNotCardSaid :=
  Claim7.holds_tied_plain_at .later [] _ _ _ _ said (fun _ h => by cases h) factsHasNot.byText (fun _ h => by cases h) fnHasNot_row_tie rfl ⟨rfl, rfl⟩ (by kernel_rfl) rfl plain (goesBy_none noGo rfl)
#print axioms card
end Go.Proofs.YtnlndpgbhmkanaaGreatDoor.fnHasNot
