/-
  FnSetTwice: of two values that are set at one path the second one counts: the law returns true for every value, every list of values and every two values more that it is handed.
  CONDITIONS: none beyond the form's own: the four arguments are whatever values of the types, and the package-level tables of the library hold what their initialisers lay.
-/
import Derived.Test.YtnlndpgbhmkanaaGreatDoorCards
import Derived.Test.YtnlndpgbhmkanaaGreatDoorTie
import Derived.Test.YtnlndpgbhmkanaaGreatDoorLawST
import Derived.Test.YtnlndpgbhmkanaaGreatDoorNoGo
import Derived.Test.YtnlndpgbhmkanaaGreatDoorFactsSetTwice
namespace Go.Proofs.YtnlndpgbhmkanaaGreatDoor.fnSetTwice
set_option linter.unusedSimpArgs false
set_option linter.unusedVariables false
set_option linter.unnecessarySimpa false
open Go Go.Gj Go.ChangeShapes Go.WideShapes Go.ChangeAt Go.RowKit

set_option maxRecDepth 100000 in
theorem contract (H : Type) (enc : TypeId × Value → H) (W : World) (base : Nat) (args : Array Value) (ds gs : List (DataW H)) (before : List MemPlace)
    (hval : ∀ (j : Nat) t v, Tryz.f6.params[j]? = some t → args[j]? = some v → Value.okWide Tryz.prog W .any base t v)
    (hW : DataW.Whole enc Tryz.prog Tryz.f6.params.toList Rows.fnSetTwiceSpec.vars false W args.toList ds gs before)
    (hz : (DataW.weightsEach Tryz.prog (Tryz.f6.params.toList ++ (OpenSpec.ofChange Rows.fnSetTwiceSpec).bare.plain.varTypes Tryz.prog) (ds ++ gs)).all (· ≤ reachBytes) = true)
    (hT : Tabs W) :
    Calls Tryz.prog 6 args W fun e W' => ∃ v, e = .returned v ∧ Rows.fnSetTwiceSpec.post enc Tryz.prog Tryz.f6 false true false false W args v W' := by
  have hW' := hW
  obtain ⟨p, q, hA0, hV, rfl, hfz, hnd⟩ := hW
  have hA : DataW.TrodAll enc Tryz.prog W 0 (fun _ => true) true Tryz.f6.params.toList args.toList ds p := hA0
  rw [Tryz.params6] at hA hval hz
  obtain ⟨v0, vs0, d0, ds0, p0, q0, hargs, rfl, rfl, h0, r0⟩ := trodAll_cons hA
  obtain ⟨v1, vs1, d1, ds1, p1, q1, rfl, rfl, rfl, h1, r1⟩ := trodAll_cons r0
  obtain ⟨v2, vs2, d2, ds2, p2, q2, rfl, rfl, rfl, h2, r2⟩ := trodAll_cons r1
  obtain ⟨v3, vs3, d3, ds3, p3, q3, rfl, rfl, rfl, h3, r3⟩ := trodAll_cons r2
  obtain ⟨rfl, rfl, rfl⟩ := trodAll_nil r3
  obtain rfl : args = #[v0, v1, v2, v3] := by cases args; simp_all
  obtain ⟨rfl, rfl⟩ := trodVars_none hV
  obtain ⟨x0, hx0⟩ := open_V (hval 0 26 v0 rfl rfl) h0 (weigh hz (j := 0) rfl rfl)
  obtain ⟨x1, hx1⟩ := open_Vs (hval 1 23 v1 rfl rfl) h1 (weigh hz (j := 1) rfl rfl)
  obtain ⟨x2, hx2⟩ := open_V (hval 2 26 v2 rfl rfl) h2 (weigh hz (j := 2) rfl rfl)
  obtain ⟨x3, hx3⟩ := open_V (hval 3 26 v3 rfl rfl) h3 (weigh hz (j := 3) rfl rfl)
  clear hA0 hA r0 r1 r2 r3 hz
  simp only [List.append_nil] at hW'
  have hlt := hW'.lt
  refine (FnSetTwice_ok x0 x1 x2 x3 W (allB W) v0 v1 v2 v3 hT (fun _ h => h) hx0 hx1 hx2 hx3).mono fun e W' ⟨he, hb⟩ => ?_
  subst he
  have hr26 : Tryz.prog.readableRec 26 = true := by kernel_rfl
  have hs26 : 26 < Tryz.prog.types.size := of_decide_eq_true (by kernel_rfl)
  have hr23 : Tryz.prog.readableRec 23 = true := by kernel_rfl
  have hs23 : 23 < Tryz.prog.types.size := of_decide_eq_true (by kernel_rfl)
  exact ⟨_, rfl, post_of_below (pa := p0 ++ (p1 ++ (p2 ++ (p3 ++ [])))) (pv := []) hW' (fun _ _ _ => trodAll_cons_mk (shut_bool Tryz.underlying4 _) trodAll_mk0)
    (fun sp hsp => (trodAll_cons_mk (trod_stays hr26 hs26 h0 hb (fun x hx => hlt x (by simp [hx])) (fun x hx => hsp x (by simp [hx]))) (trodAll_cons_mk (trod_stays hr23 hs23 h1 hb (fun x hx => hlt x (by simp [hx])) (fun x hx => hsp x (by simp [hx]))) (trodAll_cons_mk (trod_stays hr26 hs26 h2 hb (fun x hx => hlt x (by simp [hx])) (fun x hx => hsp x (by simp [hx]))) (trodAll_cons_mk (trod_stays hr26 hs26 h3 hb (fun x hx => hlt x (by simp [hx])) (fun x hx => hsp x (by simp [hx]))) trodAll_mk0)))))
    (fun _ _ => rfl) (by simp) hb (ok_one (by kernel_rfl) rfl (okWide_bool_mk Tryz.underlying4 _))⟩

/-- The record of noughts. -/
def zeroV : Value := .agg #[.int .i64 0, .int .i64 0, .string .empty, .slice none 0 0, .slice none 0 0, .slice none 0 0]

set_option maxRecDepth 100000 in
theorem laid_met (os : Os) : laidMet Tryz.prog Rows.fnSetTwiceRow.laid ((World.laidAll Tryz.prog os Rows.fnSetTwiceRow.laid).forCall (fun _ _ => 0) ⟨#[], #[zeroV, .slice none 0 0, zeroV, zeroV], []⟩).memory :=
  laidMet_laidAll _ (by kernel_rfl) (by kernel_rfl)

set_option maxRecDepth 100000 in
theorem reads (os : Os) {H : Type} (enc : TypeId × Value → H) : ∃ places, DataW.whole enc Tryz.prog ((World.laidAll Tryz.prog os Rows.fnSetTwiceRow.laid).forCall (fun _ _ => 0) ⟨#[], #[zeroV, .slice none 0 0, zeroV, zeroV], []⟩).memory Tryz.f6.params.toList Rows.fnSetTwiceSpec.vars false #[zeroV, .slice none 0 0, zeroV, zeroV].toList 8 =
    some ([.agg [.lit (.int .i64 0), .lit (.int .i64 0), .lit (.string []), .nil, .nil, .nil], .nil, .agg [.lit (.int .i64 0), .lit (.int .i64 0), .lit (.string []), .nil, .nil, .nil], .agg [.lit (.int .i64 0), .lit (.int .i64 0), .lit (.string []), .nil, .nil, .nil]], [], places) :=
  ⟨[], by kernel_rfl⟩

set_option maxRecDepth 100000 in
theorem lifted (os : Os) (started : os.Started) (H : Type) (enc : TypeId × Value → H) (F : Stop.Interp) :
    ReturnsInHanded {} Tryz.checked os 6 .any ((OpenSpec.ofChange Rows.fnSetTwiceSpec).preRow enc Tryz.prog Tryz.f6 Rows.fnSetTwiceRow.domain false Rows.fnSetTwiceRow.laid) (((OpenSpec.ofChange Rows.fnSetTwiceSpec).at F).post enc Tryz.prog Tryz.f6 false true false false) := by
  obtain ⟨places, hx⟩ := reads os enc
  refine returnsInHanded_of_row (C := Tryz.checked) (s := OpenSpec.ofChange Rows.fnSetTwiceSpec) own started (by kernel_rfl) Tryz.func6
    (witness_row_shaped (enc := enc) (C := Tryz.checked) false (World.laidAll Tryz.prog os Rows.fnSetTwiceRow.laid) #[zeroV, .slice none 0 0, zeroV, zeroV] (World.laidAll_os _ _ _) (World.shaped_of_ZipB (by kernel_rfl) (by kernel_rfl)) (by kernel_rfl)
      (OpenSpec.preRow_of_cond 8 hx (by kernel_rfl) (fun k hk => by cases hk) (by kernel_rfl) (laid_met os))) ?_
  intro W base args ds gs before hval hW _ _ hz hL _ _
  exact contract H enc W base args ds gs before hval hW hz (utf8Tabs_of_readsT (U8Types.of196 Tryz.laysValid) u8x (Lib.laidMet.reads hL (List.mem_of_getElem? (i := 14) (by kernel_rfl))) (Lib.laidMet.reads hL (List.mem_of_getElem? (i := 9) (by kernel_rfl))))

set_option maxRecDepth 100000 in
theorem inst : Tryz.f6.isInstance Tryz.prog Rows.fnSetTwiceRow.origin Rows.fnSetTwiceRow.targs := of_decide_eq_true (by kernel_rfl)
set_option maxRecDepth 100000 in
theorem wrap : Tryz.f6.isWrapper Tryz.prog Rows.fnSetTwiceRow.wrapper Rows.fnSetTwiceRow.mainSum := by
  unfold Func.isWrapper; first | (rw [if_pos (by decide +kernel)]; kernel_rfl) | (rw [if_neg (by decide +kernel)]; exact ⟨rfl, rfl⟩)

set_option maxRecDepth 100000 in
theorem said : Rows.FnSetTwiceSaid :=
  OpenClaim.holds_of_cond 6 Tryz.f6 rfl rfl rfl rfl rfl rfl rfl ⟨rfl, rfl, rfl, rfl, rfl⟩ rfl rfl rfl rfl rfl factsSetTwice.named Tryz.func6 factsSetTwice.closed inst wrap
    (fun os started H enc _ F => by rw [OpenClaim.pre_eq_preRow]; exact lifted os started H enc F)

set_option maxRecDepth 100000 in
theorem stand26 : Tryz.prog.wantsStandIn 26 = false := by kernel_rfl
set_option maxRecDepth 100000 in
theorem stand23 : Tryz.prog.wantsStandIn 23 = false := by kernel_rfl

set_option maxRecDepth 100000 in
/-- No parameter wants a stand-in; the program's own looks are on: what the card asks. -/
theorem plain (f : FuncId) (fn : Func) (hf : Tryz.pinned.checked.prog.funcNamed Rows.fnSetTwiceRow.func = some f) (hfn : Tryz.pinned.checked.prog.funcs[f]? = some fn) :
    true = Tryz.pinned.checked.prog.looks [] ∧ ∀ (j : Nat) t, fn.params[j]? = some t → Tryz.pinned.checked.prog.wantsStandIn t = false := by
  obtain rfl : f = 6 := Option.some.inj (factsSetTwice.named.symm.trans hf) |>.symm
  obtain rfl : fn = Tryz.f6 := (Option.some.inj (Tryz.func6.symm.trans hfn)).symm
  refine ⟨factsSetTwice.looks, fun j t ht => ?_⟩
  rw [Tryz.params6] at ht
  obtain rfl | rfl | rfl : t = 26 ∨ t = 23 ∨ t = 26 := by simpa using Array.mem_of_getElem? ht
  · exact stand26
  · exact stand23
  · exact stand26

set_option maxRecDepth 100000 in
theorem card : Rows.FnSetTwiceCardSaid :=
  Claim7.holds_tied_plain_at .later [] _ _ _ _ said (fun _ h => by cases h) factsSetTwice.byText (fun _ h => by cases h) fnSetTwice_row_tie rfl ⟨rfl, rfl⟩ (by kernel_rfl) rfl plain (goesBy_none noGo rfl)
#print axioms card
end Go.Proofs.YtnlndpgbhmkanaaGreatDoor.fnSetTwice
