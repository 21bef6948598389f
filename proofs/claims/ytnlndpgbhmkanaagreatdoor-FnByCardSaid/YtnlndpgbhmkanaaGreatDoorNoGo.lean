/-
  For the rows: what a reading of the arguments gives, the tables, and what stands behind the call.
-/
import Derived.Test.YtnlndpgbhmkanaaGreatDoorReadL
import Derived.Test.YtnlndpgbhmkanaaGreatDoorTabL
import Derived.OpenShut
import Derived.WideKeyArgs
import Derived.ChangeSame
import Derived.Deep.DeepHandedRow
import Derived.Lay
import Derived.Lib.LaidU8T
import Derived.Test.YtnlndpgbhmkanaaGreatDoorProg
import Derived.KernelRfl
import GoSem.ClaimGoes
namespace Go.Gj
open Go Go.RowKit Go.Proofs Go.ChangeShapes Go.WideShapes

theorem own : ownKnob Tryz.prog.godebug = none := by kernel_rfl
theorem laidOut : laidOutB Tryz.prog = true := by kernel_rfl
theorem vt : VT Tryz.prog :=
  { t26 := ⟨_, Tryz.underlying26, by kernel_rfl⟩, c26 := by kernel_rfl, c22 := by kernel_rfl, c3 := by kernel_rfl, c9 := by kernel_rfl, c23 := by kernel_rfl, c24 := by kernel_rfl, u22 := by kernel_rfl, u3 := by kernel_rfl, u9 := by kernel_rfl, u23 := by kernel_rfl, u24 := by kernel_rfl, b26 := of_decide_eq_true (by kernel_rfl), b9 := of_decide_eq_true (by kernel_rfl) }

/-- The tables of utf8, from a row's list. -/
theorem u8x : U8Extra Tryz.prog Tryz.laysValid_ren := ⟨by kernel_rfl, by kernel_rfl, by kernel_rfl, by kernel_rfl, by kernel_rfl, by kernel_rfl, by kernel_rfl⟩

theorem okWide_struct {P : Program} {w : World} {r : Reach} {base : Nat} {t : TypeId} {fs : Array Field} {v : Value} (hu : P.underlying t = some (.struct fs)) (h : Value.okWide P w r base t v) : ∃ cs, v = .agg cs := by
  unfold Value.okWide at h
  rw [hu] at h
  obtain ⟨cs, rfl, _⟩ := h
  exact ⟨cs, rfl⟩

section
variable {H : Type} {enc : TypeId × Value → H}

theorem weigh {ts ts' : List TypeId} {ds ds' : List (DataW H)} (h : (DataW.weightsEach Tryz.prog (ts ++ ts') (ds ++ ds')).all (· ≤ reachBytes) = true) {j : Nat} {t : TypeId} {d : DataW H} (ht : ts[j]? = some t) (hd : ds[j]? = some d) : ∀ n ∈ d.weights Tryz.prog t, n ≤ reachBytes := by
  have hj : j < ts.length := (List.getElem?_eq_some_iff.1 ht).1
  have hj' : j < ds.length := (List.getElem?_eq_some_iff.1 hd).1
  intro n hn
  have := List.all_eq_true.1 h n (DataW.weights_mem_each (by rw [List.getElem?_append_left hj]; exact ht) (by rw [List.getElem?_append_left hj']; exact hd) n hn)
  simpa using this

set_option maxRecDepth 100000 in
/-- A record that came in. -/
theorem open_V {W : World} {base : Nat} {v : Value} {d : DataW H} {p : List MemPlace} (hval : Value.okWide Tryz.prog W .any base 26 v) (hd : DataW.Trod enc Tryz.prog W 0 (fun _ => true) true 26 v d p) (hw : ∀ n ∈ d.weights Tryz.prog 26, n ≤ reachBytes) : ∃ x : V, VRep W (allB W) x v := by
  obtain ⟨cs, rfl⟩ := okWide_struct Tryz.underlying26 hval
  obtain ⟨fuel, hf⟩ := hd
  obtain ⟨x, hx⟩ := read_V vt fuel _ _ hf hw
  exact ⟨x, by simpa [Value.cells] using hx⟩

set_option maxRecDepth 100000 in
/-- A list of records that came in. -/
theorem open_Vs {W : World} {base : Nat} {v : Value} {d : DataW H} {p : List MemPlace} (hval : Value.okWide Tryz.prog W .any base 23 v) (hd : DataW.Trod enc Tryz.prog W 0 (fun _ => true) true 23 v d p) (hw : ∀ n ∈ d.weights Tryz.prog 23, n ≤ reachBytes) : ∃ l : List V, SlOf (allB W) l.length (fun b o => VCells W (allB W) b l o) v := by
  obtain ⟨a, n, c, rfl⟩ := okWide_slice vt.u23 hval
  obtain ⟨fuel, hf⟩ := hd
  obtain ⟨l, s, hs, h⟩ := read_Vs vt fuel _ _ hf hw
  simp only [Value.cells, List.cons.injEq, and_true] at hs
  subst hs
  exact ⟨l, h⟩

/-- Behind the call: of what was there nothing has turned. -/
theorem post_of_below {P : Program} {f : Func} {s : ChangeSpec} {apart fresh handsOn again : Bool} {W W' : World} {args : Array Value} {v : Value} {ds gs : List (DataW H)} {before pa pv : List MemPlace}
    (hW : DataW.Whole enc P f.params.toList s.vars apart W args.toList ds gs before)
    (hres : ∀ (b : Nat) (sp : Nat → Bool) (hd : Bool), DataW.TrodAll enc P W' b sp hd f.resultTypes.toList (v.resultList f.resultTypes.size) (s.fn H (ds ++ gs)).results [])
    (hargs : ∀ sp : Nat → Bool, (∀ p ∈ before, sp p.block = true) → DataW.TrodAll enc P W' 0 sp true f.params.toList args.toList (s.fn H (ds ++ gs)).args pa)
    (hvars : ∀ sp : Nat → Bool, (∀ p ∈ before, sp p.block = true) → DataW.TrodVars enc P W' sp s.vars (s.fn H (ds ++ gs)).vars pv)
    (hps : before = pa ++ pv) (hb : Below W.heap.size W W')
    (hok : ∀ (j : Nat) (t : TypeId) (r : Value), f.resultTypes[j]? = some t → (v.resultList f.resultTypes.size)[j]? = some r → Value.okWide P W' .any 0 t r) :
    s.post enc P f apart fresh handsOn again W args v W' := by
  have hlt := hW.lt
  have hold : ∀ p ∈ before, (fun b => decide (b < W.heap.size)) p.block = true := fun p hp => by simpa using hlt p hp
  refine ⟨ds, gs, before, [], pa, pv, hW, hres _ _ _, hargs _ hold, hvars _ hold, World.keptBut_mono (fun p hp => ⟨hp, ?_⟩) (hb.frame (· ∈ before)), fun _ => ?_⟩
  · rw [hps, List.mem_append] at hp
    exact Or.inr hp
  · obtain ⟨_, _, _, _, _, hz, hn⟩ := hW
    refine ⟨hok, _, _, ([] ++ pa) ++ pv, ⟨[] ++ pa, pv, trodAll_append (hargs _ (fun _ _ => rfl)) (hres _ _ _), hvars _ (fun _ _ => rfl), rfl, ?_, ?_⟩, ?_⟩
    · intro b off hp
      have hp' : MemPlace.cell b off ∈ before := by rw [hps]; simpa using hp
      rw [hb.frozen (p := ⟨b, off, none⟩) (hlt _ hp')]
      exact hz b off hp'
    · intro ha
      have := hn ha
      rw [hps] at this
      simpa using this
    · intro p hp _
      rw [hps]
      simpa using hp

/-- An argument reads as it did. -/
theorem trod_stays {t : TypeId} (hr : Tryz.prog.readableRec t = true) (hrow : t < Tryz.prog.types.size) {W W' : World} {sp' : Nat → Bool} {v : Value} {d : DataW H} {ps : List MemPlace}
    (h : DataW.Trod enc Tryz.prog W 0 (fun _ => true) true t v d ps) (hb : Below W.heap.size W W') (hlt : ∀ p ∈ ps, p.block < W.heap.size) (hs : ∀ p ∈ ps, sp' p.block = true) : DataW.Trod enc Tryz.prog W' 0 sp' true t v d ps :=
  WideElems.Trod_stays laidOut hr hrow h (fun p hp => hb.same (hlt p hp)) hs
end

/-- The witness, at a world that is known to be shaped. -/
theorem witness_row_shaped {H : Type} {enc : TypeId × Value → H} {C : Checked} {os : Os} {f : FuncId} {fn : Func} {s : OpenSpec} {conds : List PathCond} {apart : Bool} {laid : List (String × DataW Unit)} (modest : Bool) (w0 : World) (args : Array Value) (hos : w0.os = os)
    (hsh : (w0.forCall (fun _ _ => 0) ⟨#[], args, []⟩).Shaped C.prog)
    (hok : Input.okWideB C.prog (w0.forCall (fun _ _ => 0) ⟨#[], args, []⟩) f ⟨#[], args, []⟩ = true)
    (hrow : s.preRow enc C.prog fn conds apart laid (w0.forCall (fun _ _ => 0) ⟨#[], args, []⟩).memory args) :
    ∃ (w : World) (tape : Tape) (i : Input), w.os = os ∧ (w.forCall tape i).Shaped C.prog ∧ i.vars = [] ∧ Input.okWide C.prog (w.forCall tape i) .any w.heap.size f i ∧
      s.preRow enc C.prog fn conds apart laid (w.forCall tape i).memory i.args ∧ ({ modest := modest } : Assume).holds C.prog (lone (Frame.enter C.prog f i.args .normal) [] (w.forCall tape i)) :=
  ⟨w0, fun _ _ => 0, ⟨#[], args, []⟩, hos, hsh, (Input.okWide_of_okWideB (base := 0) hok).1, (Input.okWide_of_okWideB hok).2, hrow, by
    simp only [Assume.holds]
    exact ⟨by simp, by simp, fun _ => Modest.zero, by simp, by simp⟩⟩
end Go.Gj

/-
  No function of the program starts a goroutine: so no call does.
-/
namespace Go.Gj
open Go Go.Proofs

theorem goes_none {P : Program} (h : P.funcs.any Func.goes = false) (f : FuncId) : P.goes f = false := by
  unfold Program.goes
  rw [h, Bool.and_false, Bool.or_false, List.any_eq_false]
  intro g _
  cases hg : P.funcs[g]? with
  | none => simp
  | some fn =>
    have hm : fn ∈ P.funcs := Array.mem_of_getElem? hg
    rw [Array.any_eq_false'] at h
    simpa using h fn hm
theorem goesBy_none {P : Program} {c : OpenClaim} (h : P.funcs.any Func.goes = false) (hst : c.start = .entering) : false = c.goesBy P := by
  unfold OpenClaim.goesBy Program.goesAt Program.goesFrom
  rw [hst]
  cases P.funcNamed c.func with
  | none => rfl
  | some f => simp [goes_none h]

set_option maxRecDepth 100000 in
theorem noGo : Tryz.prog.funcs.any Func.goes = false := by kernel_rfl
end Go.Gj
