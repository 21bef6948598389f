/-
  gojq: updateObject, over what update does with the rest of the path.
-/
import Derived.Test.YtnlndpgbhmkanaaGreatDoorMapC
import Derived.Test.YtnlndpgbhmkanaaGreatDoorWIdx2
import Derived.Test.YtnlndpgbhmkanaaGreatDoorAnsL
namespace Go.Gj
set_option linter.unusedSimpArgs false
set_option linter.unusedVariables false
set_option linter.unnecessarySimpa false
open Go Go.RowKit Go.Proofs

theorem ne_empty {x : J} {w : World} {S : Nat → Prop} {g : Value} (h : ARep w S x g) (w' : World) : (binOp .eql 20 g (.iface 141 (.agg #[]))).run Tryz.prog w' = .ok (.bool false) w' := by
  cases x with
  | null => obtain rfl : g = .nilIface := h; kernel_rfl
  | bool b => obtain rfl : g = .iface 4 (.bool b) := h; kernel_rfl
  | num n =>
    rcases h with ⟨_, _, _, rfl⟩ | ⟨_, _, rfl⟩
    · kernel_rfl
    · kernel_rfl
  | str s => obtain rfl : g = .iface 9 (.string s) := h.1; kernel_rfl
  | arr l => obtain ⟨b, o, c, rfl, _⟩ := h; kernel_rfl
  | obj ks vs => obtain ⟨r, es, clk, rfl, _⟩ := h; kernel_rfl

theorem eg_empty {x : J} {w : World} {S : Nat → Prop} {g : Value} (h : ARep w S x g) (a b : Operand) (w' : World) : (eqGuard .eql 20 a b g (.iface 141 (.agg #[]))).run Tryz.prog w' = .ok () w' := by
  cases x with
  | null => obtain rfl : g = .nilIface := h; kernel_rfl
  | bool b => obtain rfl : g = .iface 4 (.bool b) := h; kernel_rfl
  | num n =>
    rcases h with ⟨_, _, _, rfl⟩ | ⟨_, _, rfl⟩
    · kernel_rfl
    · kernel_rfl
  | str s => obtain rfl : g = .iface 9 (.string s) := h.1; kernel_rfl
  | arr l => obtain ⟨b, o, c, rfl, _⟩ := h; kernel_rfl
  | obj ks vs => obtain ⟨r, es, clk, rfl, _⟩ := h; kernel_rfl

set_option maxRecDepth 100000 in
theorem allocated_ok (m g : Value) (w : World) : Calls Tryz.prog 296 #[m, g] w fun e w' => e = .returned (.bool false) ∧ w' = w := by
  go_enter Tryz.func296, Tryz.ntmps296
  go_wp2_with fail
  exact bodyPost_ret (v := .bool false) (by simp [results, Tryz.results296, go_sem]) rfl ⟨rfl, rfl⟩

set_option maxRecDepth 100000 in
theorem makeObject_ok (n : Int) (w : World) : Calls Tryz.prog 297 #[.map none, .int .i64 n] w fun e w' => e = .returned (.map (some w.heap.size)) ∧ w' = w.alloc (.map #[] 0) := by
  have hm := run_makeMap83 w n
  go_enter Tryz.func297, Tryz.ntmps297
  go_wp2_with fail
  exact bodyPost_ret (v := .map (some w.heap.size)) (by simp [results, Tryz.results297, go_sem]) rfl ⟨rfl, rfl⟩

/-- A path's rest, as a slice. -/
def PSl (w : World) (p : List J) (v : Value) : Prop := ∃ a c, v = .slice a p.length c ∧ p.length ≤ c ∧ c ≤ capMost ∧ (p = [] ∨ ∃ b o, a = some ⟨b, o, none⟩ ∧ b < w.heap.size ∧ ACells w (allB w) b p o)

/-- What update answers. -/
def UpIs (w : World) (a : Option J) (w' : World) (e : Ending) : Prop := match a with
  | some r => ∃ g, e = .returned (.tuple #[g, .nilIface]) ∧ Below w.heap.size w w' ∧ ARep w' (allB w') r g
  | none => ∃ t v, e = .returned (.tuple #[.nilIface, .iface t v]) ∧ Below w.heap.size w w'

def UpOk (p : List J) : Prop := ∀ (v x : J) (w : World) (gv gx vp : Value), v.ok → ARep w (allB w) v gv → ARep w (allB w) x gx → PSl w p vp →
  Calls Tryz.prog 186 #[gv, vp, gx, .map none] w fun e w' => UpIs w (setJ v p x) w' e

/-- A map that stands for an object, or none. -/
def SrcO (w : World) (ps : Option Nat) (ks : List ByteArray) (vs : List J) : Prop := (ps = none ∧ ks = [] ∧ vs = []) ∨ ∃ r, ps = some r ∧ ARep w (allB w) (.obj ks vs) (.iface 83 (.map (some r)))

theorem SrcO.look {w : World} {ps : Option Nat} {ks : List ByteArray} {vs : List J} (h : SrcO w ps ks vs) (hv : (J.obj ks vs).ok) (s : ByteArray) :
    ∃ (g : Value) (b : Bool), (Instr.lookup 83 (.map ps) (.string s) true).run Tryz.prog w = .ok (.tuple #[g, .bool b]) w ∧ ARep w (allB w) (getK ks vs s) g := by
  rcases h with ⟨rfl, rfl, rfl⟩ | ⟨r, rfl, r', es, clk, he, _, hh, _, hp, _, ha⟩
  · exact ⟨.nilIface, false, run_lookup_nil w s true, rfl⟩
  · obtain rfl : r' = r := by simpa using he.symm
    obtain ⟨g, b, _, hl, hg⟩ := obj_lookup hh hp hv.2.2.1 hv.1 ha s true
    exact ⟨g, b, hl w hh, hg⟩

theorem SrcO.len {w : World} {ps : Option Nat} {ks : List ByteArray} {vs : List J} (h : SrcO w ps ks vs) (hv : (J.obj ks vs).ok) : ∃ n : Nat, n ≤ lim ∧ ∀ ty, (Builtin.len_ #[83] ty #[.map ps]).run Tryz.prog w = .ok (.int .i64 n) w := by
  rcases h with ⟨rfl, rfl, rfl⟩ | ⟨r, rfl, r', es, clk, he, _, hh, _, hp, _, ha⟩
  · exact ⟨0, Nat.zero_le _, fun ty => by kernel_rfl⟩
  · obtain rfl : r' = r := by simpa using he.symm
    have := hp.length_eq
    simp only [List.length_map, Array.length_toList] at this
    refine ⟨es.size, by rw [this]; have h1 := hv.1; have h2 := hv.2.1; omega, fun ty => ?_⟩
    have hg : goInt (es.size : Int) = .int .i64 es.size := by
      have h1 := hv.1; have h2 := hv.2.1; unfold lim at h2
      unfold goInt
      rfl
    simp [Builtin.len_, getObj, hh, Sem.run, hg]

theorem SrcO.below {w w' : World} {ps : Option Nat} {ks : List ByteArray} {vs : List J} (h : SrcO w ps ks vs) (hb : Below w.heap.size w w') : SrcO w' ps ks vs := by
  rcases h with h | ⟨r, hr, ha⟩
  · exact .inl h
  · exact .inr ⟨r, hr, (ha.below hb fun _ h => h).mono fun b h => Nat.lt_of_lt_of_le h hb.size⟩

theorem SrcO.es {w w' : World} {ps : Option Nat} {ks : List ByteArray} {vs : List J} (h : SrcO w ps ks vs) (hv : (J.obj ks vs).ok) (hb : Below w.heap.size w w') :
    ∃ es : Array MapEntry, ((ps = none ∧ es = #[]) ∨ ∃ r clk, ps = some r ∧ w'.heap[r]? = some (.map es clk) ∧ TextMap es clk) ∧ (es.toList.map (·.key)).Perm (ks.map Value.string) ∧ AVals w (allB w) es ks vs := by
  rcases h with ⟨rfl, rfl, rfl⟩ | ⟨r, rfl, r', es, clk, he, hr, hh, hs, hp, hk, ha⟩
  · exact ⟨#[], .inl ⟨rfl, rfl⟩, List.Perm.refl _, rfl⟩
  · obtain rfl : r' = r := by simpa using he.symm
    refine ⟨es, .inr ⟨r', clk, rfl, (hb.block r' hr).trans hh, hs, fun x hx => ?_, ?_⟩, hp, ha⟩
    · obtain ⟨k, hkm, e⟩ := List.mem_map.1 (hp.mem_iff.1 (List.mem_map.2 ⟨x, hx, rfl⟩))
      exact ⟨k, e.symm, hk k hkm⟩
    · have := hp.length_eq
      simp only [List.length_map, Array.length_toList] at this
      rw [this]; have h1 := hv.1; have h2 := hv.2.1; omega

theorem TextMap_keys {w' : World} {ps : Option Nat} {es : Array MapEntry} (h : (ps = none ∧ es = #[]) ∨ ∃ r clk, ps = some r ∧ w'.heap[r]? = some (.map es clk) ∧ TextMap es clk) : ∀ x ∈ es.toList, ∃ k : ByteArray, x.key = .string k := by
  rcases h with ⟨_, rfl⟩ | ⟨r, clk, _, _, ht⟩
  · intro x hx; simp at hx
  · intro x hx; obtain ⟨k, hk, _⟩ := ht.keys x hx; exact ⟨k, hk⟩

theorem object_put {w w1 w2 w3 : World} {ks : List ByteArray} {vs : List J} {s : ByteArray} {r : J} {g : Value} {es es2 : Array MapEntry} {clk2 : Nat} (hv : (J.obj ks vs).ok) (hs : s.size ≤ mostLen) (hp : (es.toList.map (·.key)).Perm (ks.map Value.string)) (ha : AVals w (allB w) es ks vs) (hb : Below w.heap.size w w1) (hr : ARep w1 (allB w1) r g)
    (h : (w1.alloc (.map #[] 0)).grownBy w2 (some w1.heap.size) ∧ w2.grownBy w3 (some w1.heap.size) ∧ w3.heap[w1.heap.size]? = some (.map es2 clk2) ∧ MapKept.Stamped es2 clk2 ∧
      (∀ x ∈ es2.toList, (x.key = .string s ∧ x.val = g) ∨ ∃ e ∈ es.toList, e.key = x.key ∧ e.val = x.val ∧ e.key ≠ .string s) ∧
      (∃ x ∈ es2.toList, x.key = .string s ∧ x.val = g) ∧ (∀ e ∈ es.toList, e.key ≠ .string s → ∃ x ∈ es2.toList, x.key = e.key ∧ x.val = e.val)) :
    Below w.heap.size w w3 ∧ ARep w3 (allB w3) (.obj (putK ks vs s r).1 (putK ks vs s r).2) (.iface 83 (.map (some w1.heap.size))) := by
  obtain ⟨hg2, hg3, hh3, hst, q1, q2, q3⟩ := h
  have hsz2 := hg2.size
  simp only [size_alloc] at hsz2
  have hb13 : Below w1.heap.size w1 w3 := (((Below.refl _ w1).alloc (Nat.le_refl _) _).grown hg2 (by simp) (fun j hj => by cases hj; exact Nat.le_refl _)).grown hg3 (by omega) (fun j hj => by cases hj; exact Nat.le_refl _)
  have hb03 : Below w.heap.size w w3 := hb.trans (hb13.mono hb.size)
  have ha3 : AVals w3 (allB w3) es ks vs := AVals.keep (.of_below hb03 fun _ h => h) (fun b h => Nat.lt_of_lt_of_le h hb03.size) _ _ _ ha
  have hr3 : ARep w3 (allB w3) r g := (hr.below hb13 fun _ h => h).mono fun b h => Nat.lt_of_lt_of_le h hb13.size
  obtain ⟨k1, k2⟩ := put_rep hp hv.2.2.1 hv.1 ha3 hst q1 q2 q3 hr3
  refine ⟨hb03, w1.heap.size, es2, clk2, rfl, (Array.getElem?_eq_some_iff.1 hh3).1, hh3, hst, k1, fun k hk => ?_, k2⟩
  rcases (putK_keys ks vs s r hv.1 k).1 hk with h | rfl
  · have := hv.2.2.2.1 k h; unfold lim at this; unfold mostLen; omega
  · exact hs

set_option maxHeartbeats 1000000 in
set_option maxRecDepth 100000 in
theorem updateObject_ok (p : List J) (ih : UpOk p) (ps : Option Nat) (ks : List ByteArray) (vs : List J) (s : ByteArray) (hsz : s.size ≤ mostLen) (hv : (J.obj ks vs).ok) (x : J) (w : World) (gx vp : Value) (hsrc : SrcO w ps ks vs) (hx : ARep w (allB w) x gx) (hp : PSl w p vp) :
    Calls Tryz.prog 235 #[.map ps, .string s, vp, gx, .map none] w fun e w' => UpIs w ((setJ (getK ks vs s) p x).map fun u => .obj (putK ks vs s u).1 (putK ks vs s u).2) w' e := by
  obtain ⟨g0, b0, hlk, hg0⟩ := hsrc.look hv s
  have hne := ne_empty hx
  have heg := eg_empty hx
  have hgk : (getK ks vs s).ok := by
    have := (oks_iff vs).1 hv.2.2.2.2
    by_cases hm : s ∈ ks
    · obtain ⟨i, hi, rfl⟩ := List.getElem_of_mem hm
      rw [getK_at ks vs (rises_nodup hv.2.2.1) i hi (by have := hv.1; omega)]
      exact this _ (List.getElem_mem _)
    · rw [getK_none ks vs s hm]; trivial
  have HC := Lib.hid (ih (getK ks vs s) x w g0 gx vp hgk hg0 hx hp)
  have HS := Lib.hid hsrc
  have HV := Lib.hid hv
  have HSZ := Lib.hid hsz
  obtain ⟨pa, pc, rfl, _⟩ := hp
  clear hsrc hx hgk ih hg0 hsz hv
  cases hset : setJ (getK ks vs s) p x with
  | none =>
    have HC2 : Hid (Calls Tryz.prog 186 #[g0, .slice pa p.length pc, gx, .map none] w fun e w' => ∃ t v, e = .returned (.tuple #[.nilIface, .iface t v]) ∧ Below w.heap.size w w') := by
      have := HC.out; rw [hset] at this; exact Lib.hid this
    clear hset HC
    cases b0
    all_goals
      go_enter Tryz.func235, Tryz.ntmps235
      go_wp2_with (go_at_call 186; refine HC2.out.mono ?_; rintro e w1 ⟨t, v, rfl, hb⟩)
      exact bodyPost_ret (v := .tuple #[.nilIface, .iface t v]) (by simp [results, Tryz.results235, go_sem]) rfl ⟨t, v, rfl, hb⟩
  | some r =>
    have HC2 : Hid (Calls Tryz.prog 186 #[g0, .slice pa p.length pc, gx, .map none] w fun e w' => ∃ g, e = .returned (.tuple #[g, .nilIface]) ∧ Below w.heap.size w w' ∧ ARep w' (allB w') r g) := by
      have := HC.out; rw [hset] at this; exact Lib.hid this
    clear hset HC
    cases b0
    all_goals
      go_enter Tryz.func235, Tryz.ntmps235
      go_upto_region 9 with (go_at_call 186; refine HC2.out.mono ?_; rintro e w1 ⟨g, rfl, hb, hr⟩)
      obtain ⟨es, hes, hperm, hav⟩ := HS.out.es HV.out hb
      obtain ⟨n, hn, hlen⟩ := (HS.out.below hb).len HV.out
      have hwr : IntKind.i64.wrap ((n : Int) + 1) = n + 1 := by unfold lim at hn; rw [IntKind.wrap_i64]; omega
      have HCP := Lib.hid (copy_ok ps es w1 hes)
      have HPU := Lib.hid (fun (w2 : World) h => put_ok (w := w2) (b := w1.heap.size) (es := es) (TextMap_keys hes) h s HSZ.out g)
      have HF := Lib.hid (And.intro hperm (And.intro hav (And.intro hb hr)))
      clear hes hperm hav hb hr hn
      go_wp2_with (first | (go_at_call 296; refine (allocated_ok _ _ _).mono ?_; rintro e w1 ⟨rfl, rfl⟩) | (go_at_call 297; refine (makeObject_ok _ _).mono ?_; rintro e w2 ⟨rfl, rfl⟩) | (go_at_call 183; refine HCP.out.mono ?_; rintro e w2 ⟨rfl, hg2, ho2⟩; obtain ⟨w3, es2, clk2, hrun, hg3, hh3, hst3, q1, q2, q3⟩ := HPU.out w2 ho2; have HQ := Lib.hid (And.intro hg2 (And.intro hg3 (And.intro hh3 (And.intro hst3 (And.intro q1 (And.intro q2 q3)))))); clear ho2 hg2 hg3 hh3 hst3 q1 q2 q3))
      refine bodyPost_ret (v := .tuple #[.iface 83 (.map (some w1.heap.size)), .nilIface]) (by simp [results, Tryz.results235, go_sem]) rfl ?_
      exact ⟨_, rfl, object_put HV.out HSZ.out HF.out.1 HF.out.2.1 HF.out.2.2.1 HF.out.2.2.2 HQ.out⟩
end Go.Gj
