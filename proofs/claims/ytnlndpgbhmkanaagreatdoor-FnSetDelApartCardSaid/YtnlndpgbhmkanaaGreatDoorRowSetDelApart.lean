/-
  FnSetDelApart: a value that is set at a path, and a key that is deleted at another one, of which neither is the beginning of the other, may come in either order: the law returns true for every value, every two lists of values and every value more that it is handed.
  CONDITIONS: none beyond the form's own: the three arguments are whatever values of the types, and the package-level tables of the library hold what their initialisers lay.
-/
import Derived.Test.YtnlndpgbhmkanaaGreatDoorCards
import Derived.Test.YtnlndpgbhmkanaaGreatDoorTie
import Derived.Test.YtnlndpgbhmkanaaGreatDoorLawSD
import Derived.Test.YtnlndpgbhmkanaaGreatDoorNoGo
import Derived.Test.YtnlndpgbhmkanaaGreatDoorFactsSetDelApart
namespace Go.Proofs.YtnlndpgbhmkanaaGreatDoor.fnSetDelApart
set_option linter.unusedSimpArgs false
set_option linter.unusedVariables false
set_option linter.unnecessarySimpa false
open Go Go.Gj Go.ChangeShapes Go.WideShapes Go.ChangeAt Go.RowKit

section
variable {H : Type} {enc : TypeId × Value → H}
set_option maxRecDepth 100000 in
/-- Two lists of records that came in. -/
theorem open_Pair {W : World} {base : Nat} {v : Value} {d : DataW H} {p : List MemPlace} (hval : Value.okWide Tryz.prog W .any base 50 v) (hd : DataW.Trod enc Tryz.prog W 0 (fun _ => true) true 50 v d p) (hw : ∀ n ∈ d.weights Tryz.prog 50, n ≤ reachBytes) :
    ∃ (l m : List V) (vp vq : Value), v = .agg #[vp, vq] ∧ SlOf (allB W) l.length (fun b o => VCells W (allB W) b l o) vp ∧ SlOf (allB W) m.length (fun b o => VCells W (allB W) b m o) vq := by
  have hu : Tryz.prog.underlying 50 = some (.array 2 23) := Tryz.underlying50
  have hc50 : Tryz.prog.cellsOf 50 = 2 := by kernel_rfl
  unfold Value.okWide at hval
  rw [hu] at hval
  obtain ⟨cs, rfl, _⟩ := hval
  obtain ⟨fuel, hf⟩ := hd
  obtain ⟨xs, m, rfl, hx, hl, hxl, hall⟩ := DataW.trod_array hu hf
  rw [hc50] at hl
  obtain ⟨rfl, rfl⟩ : d = .agg (xs.map (·.1)) ∧ p = xs.flatMap (·.2) := by simpa using hx
  obtain ⟨x0, x1, rfl⟩ : ∃ x0 x1, xs = [x0, x1] := by
    match xs, hxl with
    | [x0, x1], _ => exact ⟨x0, x1, rfl⟩
  obtain ⟨c0, c1, rfl⟩ : ∃ c0 c1, cs = #[c0, c1] := by
    obtain ⟨l⟩ := cs
    simp [Value.cells] at hl
    match l, hl with
    | [c0, c1], _ => exact ⟨c0, c1, rfl⟩
  have g0 := hall 0 (by omega)
  have g1 := hall 1 (by omega)
  rw [vt.c23] at g0 g1
  simp [Value.cells] at g0 g1
  simp only [DataW.weights, hu] at hw
  obtain ⟨l, s, hs, h1⟩ := read_Vs vt m [c0] x0 g0 (fun n hn => hw n (weightsAll_mem _ x0.1 (by simp) n hn))
  obtain ⟨k, t, ht, h2⟩ := read_Vs vt m [c1] x1 g1 (fun n hn => hw n (weightsAll_mem _ x1.1 (by simp) n hn))
  simp only [List.cons.injEq, and_true] at hs ht
  subst hs ht
  exact ⟨l, k, _, _, rfl, h1, h2⟩
end

set_option maxRecDepth 100000 in
theorem contract (H : Type) (enc : TypeId × Value → H) (W : World) (base : Nat) (args : Array Value) (ds gs : List (DataW H)) (before : List MemPlace)
    (hval : ∀ (j : Nat) t v, Tryz.f8.params[j]? = some t → args[j]? = some v → Value.okWide Tryz.prog W .any base t v)
    (hW : DataW.Whole enc Tryz.prog Tryz.f8.params.toList Rows.fnSetDelApartSpec.vars false W args.toList ds gs before)
    (hz : (DataW.weightsEach Tryz.prog (Tryz.f8.params.toList ++ (OpenSpec.ofChange Rows.fnSetDelApartSpec).bare.plain.varTypes Tryz.prog) (ds ++ gs)).all (· ≤ reachBytes) = true)
    (hT : Tabs W) :
    Calls Tryz.prog 8 args W fun e W' => ∃ v, e = .returned v ∧ Rows.fnSetDelApartSpec.post enc Tryz.prog Tryz.f8 false true false false W args v W' := by
  have hW' := hW
  obtain ⟨p, q, hA0, hV, rfl, hfz, hnd⟩ := hW
  have hA : DataW.TrodAll enc Tryz.prog W 0 (fun _ => true) true Tryz.f8.params.toList args.toList ds p := hA0
  rw [Tryz.params8] at hA hval hz
  obtain ⟨v0, vs0, d0, ds0, p0, q0, hargs, rfl, rfl, h0, r0⟩ := trodAll_cons hA
  obtain ⟨v1, vs1, d1, ds1, p1, q1, rfl, rfl, rfl, h1, r1⟩ := trodAll_cons r0
  obtain ⟨v2, vs2, d2, ds2, p2, q2, rfl, rfl, rfl, h2, r2⟩ := trodAll_cons r1
  obtain ⟨rfl, rfl, rfl⟩ := trodAll_nil r2
  obtain rfl : args = #[v0, v1, v2] := by cases args; simp_all
  obtain ⟨rfl, rfl⟩ := trodVars_none hV
  obtain ⟨x0, hx0⟩ := open_V (hval 0 26 v0 rfl rfl) h0 (weigh hz (j := 0) rfl rfl)
  obtain ⟨x1, y1, vp, vq, rfl, hx1, hy1⟩ := open_Pair (hval 1 50 v1 rfl rfl) h1 (weigh hz (j := 1) rfl rfl)
  obtain ⟨x2, hx2⟩ := open_V (hval 2 26 v2 rfl rfl) h2 (weigh hz (j := 2) rfl rfl)
  clear hA0 hA r0 r1 r2 hz
  simp only [List.append_nil] at hW'
  have hlt := hW'.lt
  refine (FnSetDelApart_ok x0 x1 y1 x2 W (allB W) v0 vp vq v2 hT (fun _ h => h) hx0 hx1 hy1 hx2).mono fun e W' ⟨he, hb⟩ => ?_
  subst he
  have hr26 : Tryz.prog.readableRec 26 = true := by kernel_rfl
  have hs26 : 26 < Tryz.prog.types.size := of_decide_eq_true (by kernel_rfl)
  have hr50 : Tryz.prog.readableRec 50 = true := by kernel_rfl
  have hs50 : 50 < Tryz.prog.types.size := of_decide_eq_true (by kernel_rfl)
  exact ⟨_, rfl, post_of_below (pa := p0 ++ (p1 ++ (p2 ++ []))) (pv := []) hW' (fun _ _ _ => trodAll_cons_mk (shut_bool Tryz.underlying4 _) trodAll_mk0)
    (fun sp hsp => (trodAll_cons_mk (trod_stays hr26 hs26 h0 hb (fun x hx => hlt x (by simp [hx])) (fun x hx => hsp x (by simp [hx]))) (trodAll_cons_mk (trod_stays hr50 hs50 h1 hb (fun x hx => hlt x (by simp [hx])) (fun x hx => hsp x (by simp [hx]))) (trodAll_cons_mk (trod_stays hr26 hs26 h2 hb (fun x hx => hlt x (by simp [hx])) (fun x hx => hsp x (by simp [hx]))) trodAll_mk0))))
    (fun _ _ => rfl) (by simp) hb (ok_one (by kernel_rfl) rfl (okWide_bool_mk Tryz.underlying4 _))⟩

/-- The record of noughts. -/
def zeroV : Value := .agg #[.int .i64 0, .int .i64 0, .string .empty, .slice none 0 0, .slice none 0 0, .slice none 0 0]

set_option maxRecDepth 100000 in
theorem laid_met (os : Os) : laidMet Tryz.prog Rows.fnSetDelApartRow.laid ((World.laidAll Tryz.prog os Rows.fnSetDelApartRow.laid).forCall (fun _ _ => 0) ⟨#[], #[zeroV, .agg #[.slice none 0 0, .slice none 0 0], zeroV], []⟩).memory :=
  laidMet_laidAll _ (by kernel_rfl) (by kernel_rfl)

set_option maxRecDepth 100000 in
theorem reads (os : Os) {H : Type} (enc : TypeId × Value → H) : ∃ places, DataW.whole enc Tryz.prog ((World.laidAll Tryz.prog os Rows.fnSetDelApartRow.laid).forCall (fun _ _ => 0) ⟨#[], #[zeroV, .agg #[.slice none 0 0, .slice none 0 0], zeroV], []⟩).memory Tryz.f8.params.toList Rows.fnSetDelApartSpec.vars false #[zeroV, .agg #[.slice none 0 0, .slice none 0 0], zeroV].toList 8 =
    some ([.agg [.lit (.int .i64 0), .lit (.int .i64 0), .lit (.string []), .nil, .nil, .nil], .agg [.nil, .nil], .agg [.lit (.int .i64 0), .lit (.int .i64 0), .lit (.string []), .nil, .nil, .nil]], [], places) :=
  ⟨[], by kernel_rfl⟩

set_option maxRecDepth 100000 in
theorem lifted (os : Os) (started : os.Started) (H : Type) (enc : TypeId × Value → H) (F : Stop.Interp) :
    ReturnsInHanded {} Tryz.checked os 8 .any ((OpenSpec.ofChange Rows.fnSetDelApartSpec).preRow enc Tryz.prog Tryz.f8 Rows.fnSetDelApartRow.domain false Rows.fnSetDelApartRow.laid) (((OpenSpec.ofChange Rows.fnSetDelApartSpec).at F).post enc Tryz.prog Tryz.f8 false true false false) := by
  obtain ⟨places, hx⟩ := reads os enc
  refine returnsInHanded_of_row (C := Tryz.checked) (s := OpenSpec.ofChange Rows.fnSetDelApartSpec) own started (by kernel_rfl) Tryz.func8
    (witness_row_shaped (enc := enc) (C := Tryz.checked) false (World.laidAll Tryz.prog os Rows.fnSetDelApartRow.laid) #[zeroV, .agg #[.slice none 0 0, .slice none 0 0], zeroV] (World.laidAll_os _ _ _) (World.shaped_of_ZipB (by kernel_rfl) (by kernel_rfl)) (by kernel_rfl)
      (OpenSpec.preRow_of_cond 8 hx (by kernel_rfl) (fun k hk => by cases hk) (by kernel_rfl) (laid_met os))) ?_
  intro W base args ds gs before hval hW _ _ hz hL _ _
  exact contract H enc W base args ds gs before hval hW hz (utf8Tabs_of_readsT (U8Types.of196 Tryz.laysValid) u8x (Lib.laidMet.reads hL (List.mem_of_getElem? (i := 14) (by kernel_rfl))) (Lib.laidMet.reads hL (List.mem_of_getElem? (i := 9) (by kernel_rfl))))

set_option maxRecDepth 100000 in
theorem inst : Tryz.f8.isInstance Tryz.prog Rows.fnSetDelApartRow.origin Rows.fnSetDelApartRow.targs := of_decide_eq_true (by kernel_rfl)
set_option maxRecDepth 100000 in
theorem wrap : Tryz.f8.isWrapper Tryz.prog Rows.fnSetDelApartRow.wrapper Rows.fnSetDelApartRow.mainSum := by
  unfold Func.isWrapper; first | (rw [if_pos (by decide +kernel)]; kernel_rfl) | (rw [if_neg (by decide +kernel)]; exact ⟨rfl, rfl⟩)

set_option maxRecDepth 100000 in
theorem said : Rows.FnSetDelApartSaid :=
  OpenClaim.holds_of_cond 8 Tryz.f8 rfl rfl rfl rfl rfl rfl rfl ⟨rfl, rfl, rfl, rfl, rfl⟩ rfl rfl rfl rfl rfl factsSetDelApart.named Tryz.func8 factsSetDelApart.closed inst wrap
    (fun os started H enc _ F => by rw [OpenClaim.pre_eq_preRow]; exact lifted os started H enc F)

set_option maxRecDepth 100000 in
theorem stand26 : Tryz.prog.wantsStandIn 26 = false := by kernel_rfl
set_option maxRecDepth 100000 in
theorem stand50 : Tryz.prog.wantsStandIn 50 = false := by kernel_rfl

set_option maxRecDepth 100000 in
/-- No parameter wants a stand-in; the program's own looks are on: what the card asks. -/
theorem plain (f : FuncId) (fn : Func) (hf : Tryz.pinned.checked.prog.funcNamed Rows.fnSetDelApartRow.func = some f) (hfn : Tryz.pinned.checked.prog.funcs[f]? = some fn) :
    true = Tryz.pinned.checked.prog.looks [] ∧ ∀ (j : Nat) t, fn.params[j]? = some t → Tryz.pinned.checked.prog.wantsStandIn t = false := by
  obtain rfl : f = 8 := Option.some.inj (factsSetDelApart.named.symm.trans hf) |>.symm
  obtain rfl : fn = Tryz.f8 := (Option.some.inj (Tryz.func8.symm.trans hfn)).symm
  refine ⟨factsSetDelApart.looks, fun j t ht => ?_⟩
  rw [Tryz.params8] at ht
  obtain rfl | rfl | rfl : t = 26 ∨ t = 50 ∨ t = 26 := by simpa using Array.mem_of_getElem? ht
  · exact stand26
  · exact stand50
  · exact stand26

set_option maxRecDepth 100000 in
theorem card : Rows.FnSetDelApartCardSaid :=
  Claim7.holds_tied_plain_at .later [] _ _ _ _ said (fun _ h => by cases h) factsSetDelApart.byText (fun _ h => by cases h) fnSetDelApart_row_tie rfl ⟨rfl, rfl⟩ (by kernel_rfl) rfl plain (goesBy_none noGo rfl)
#print axioms card
end Go.Proofs.YtnlndpgbhmkanaaGreatDoor.fnSetDelApart
