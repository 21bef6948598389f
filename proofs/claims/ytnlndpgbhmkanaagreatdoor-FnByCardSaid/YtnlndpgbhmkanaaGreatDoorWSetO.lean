/-
  An object's map is copied, and a value is set at a key.
-/
import Derived.Test.YtnlndpgbhmkanaaGreatDoorLookL
import Derived.Test.YtnlndpgbhmkanaaGreatDoorPlS
import Derived.Shelf.SlMaps.Copy
import Derived.Shelf.SlGeneric
import Derived.Ground.SlmpProg
import Derived.Maps.OwnSet
import Derived.Test.YtnlndpgbhmkanaaGreatDoorAnsL
namespace Go.Proofs
open Go.Shelf
def Tryz.copyN_ren : Go.Shelf.Ren := ⟨fun | 5 => 183 | n => n, fun | 23 => 83 | 24 => 83 | 26 => 9 | 27 => 20 | 0 => 0 | 4 => 4 | n => n, fun | n => n⟩
theorem Tryz.copyN : Go.Proofs.SlLaysX.n5 Tryz.prog Tryz.copyN_ren := {
  mixed := by kernel_rfl
  f5 := ⟨Tryz.f183.name, by decide, Tryz.func183.trans (congrArg some (by kernel_rfl))⟩
  t0 := Tryz.underlying0
  a0 := Tryz.isAgg0
  z0 := Tryz.sizeOf0
  v0 := Tryz.zeroValue0
  t4 := Tryz.underlying4
  a4 := Tryz.isAgg4
  z4 := Tryz.sizeOf4
  v4 := Tryz.zeroValue4
  t23 := Tryz.underlying83
  a23 := Tryz.isAgg83
  z23 := Tryz.sizeOf83
  v23 := Tryz.zeroValue83
  t24 := Tryz.underlying83
  a24 := Tryz.isAgg83
  z24 := Tryz.sizeOf83
  v24 := Tryz.zeroValue83
  a26 := Tryz.isAgg9
  z26 := Tryz.sizeOf9
  a27 := Tryz.isAgg20
  z27 := Tryz.sizeOf20 }
end Go.Proofs
namespace Go.Gj
set_option linter.unusedSimpArgs false
set_option linter.unusedVariables false
set_option linter.unnecessarySimpa false
open Go Go.RowKit Go.Proofs

/-- An element reads as itself. -/
def RH : Value → Option (DataW Value × List MemPlace) := fun v => some (.held v, [])

/-- The entries of a map whose keys are texts. -/
structure TextMap (es : Array MapEntry) (clk : Nat) : Prop where
  stamped : MapKept.Stamped es clk
  keys : ∀ x ∈ es.toList, ∃ k : ByteArray, x.key = .string k ∧ k.size ≤ mostLen
  size : es.size ≤ lim + 1

def litOf : Value → Lit
  | .string s => .string s.data.toList
  | _ => .bool false

theorem TextMap.rd {es : Array MapEntry} {clk : Nat} (h : TextMap es clk) : ∀ x ∈ es.toList, WideElems.rd Tryz.prog 9 RH x = some (litOf x.key, .held x.val) := fun x hx => by
  obtain ⟨k, e, hk⟩ := h.keys x hx
  unfold WideElems.rd
  have hkl : k.size ≤ maxLen := by unfold mostLen at hk; unfold maxLen; omega
  rw [e, keyOf_string Tryz.underlying9]
  simp [mapKey, hkl, RH, Tryz.underlying9, litOf]

theorem TextMap.owned {es : Array MapEntry} {clk : Nat} (h : TextMap es clk) {w : World} {r : Nat} (hh : w.heap[r]? = some (.map es clk)) :
    w.ownsMap Tryz.prog 9 RH r es.size (.map ((es.toList.map (WideElems.rg Tryz.prog 9 RH)).foldr DataW.insert [])) :=
  ⟨es, clk, hh, ⟨by have := h.size; unfold lim at this; unfold maxLen; omega, h.stamped, fun x hx => ⟨_, h.rd x hx⟩⟩, Nat.le_refl _, rfl⟩

theorem TextMap.rg {es : Array MapEntry} {clk : Nat} (h : TextMap es clk) : es.toList.map (WideElems.rg Tryz.prog 9 RH) = es.toList.map fun x => (litOf x.key, DataW.held x.val) :=
  List.map_congr_left fun x hx => WideElems.rg_of (h.rd x hx)

theorem merge_nil {w : World} {b n : Nat} {D : DataW Value} (h : w.ownsMap Tryz.prog 9 RH b n D) : Lib.mergeD (.map []) D = D := by
  have K : Maps.Keyed Tryz.prog 9 := Maps.string_keyed Tryz.underlying9
  refine (Maps.merged_eq (Kd := Maps.KeysOf Tryz.prog 9) (left := fun _ => false) K.one ⟨fun k => ?_, fun k z => ?_⟩ (fun _ => rfl) (h.canon K) ⟨[], rfl, List.Pairwise.nil, fun p hp => by cases hp⟩ (h.canonK K)).symm
  · simp [Maps.has]
  · cases hk : Maps.has D k with
    | true => simp
    | false => rw [Maps.atKey_of_not_has hk]; simp [DataW.atKey]

/-- maps.Copy into a new map. -/
theorem copy_ok (ps : Option Nat) (es : Array MapEntry) (w : World) (hs : (ps = none ∧ es = #[]) ∨ ∃ r clk, ps = some r ∧ w.heap[r]? = some (.map es clk) ∧ TextMap es clk) :
    Calls Tryz.prog 183 #[.map (some w.heap.size), .map ps] (w.alloc (.map #[] 0)) fun e w' => e = .returned (.tuple #[]) ∧ (w.alloc (.map #[] 0)).grownBy w' (some w.heap.size) ∧
      w'.ownsMap Tryz.prog 9 RH w.heap.size (lim + 1) (.map ((es.toList.map fun x => (litOf x.key, DataW.held x.val)).foldr DataW.insert [])) := by
  have K : Maps.Keyed Tryz.prog 9 := Maps.string_keyed Tryz.underlying9
  have hd : (w.alloc (.map #[] 0)).ownsMap Tryz.prog 9 RH w.heap.size 0 (.map []) := World.ownsMap_made w Tryz.prog 9 RH
  rcases hs with ⟨rfl, rfl⟩ | ⟨r, clk, rfl, hh, ht⟩
  · refine (AnyX.maps_Copy_opt (H := Value) Tryz.copyN K RH w.heap.size 0 none (.map []) .nil _ hd (.inl ⟨rfl, rfl⟩) (by simp) (by simp [Maps.size])).mono fun e w' ⟨he, h1, h2⟩ => ⟨he, h2, ?_⟩
    exact h1.mono (by simp [Maps.size])
  · have hlt : r < w.heap.size := (Array.getElem?_eq_some_iff.1 hh).1
    have hh' : (w.alloc (.map #[] 0)).heap[r]? = some (.map es clk) := (Below.heap_alloc w (.map #[] 0) r hlt).trans hh
    have ho := ht.owned hh'
    have hsz : Maps.size (DataW.map ((es.toList.map (WideElems.rg Tryz.prog 9 RH)).foldr DataW.insert [])) ≤ es.size := ho.size_le
    have hes := ht.size
    refine (AnyX.maps_Copy_opt (H := Value) Tryz.copyN K RH w.heap.size 0 (some r) (.map []) _ _ hd (.inr ⟨r, es.size, rfl, ho⟩) (by simp; omega) (by unfold lim at hes; unfold maxLen; omega)).mono fun e w' ⟨he, h1, h2⟩ => ⟨he, h2, ?_⟩
    rw [merge_nil ho, ht.rg] at h1
    exact h1.mono (by rw [ht.rg] at hsz; omega)

theorem lit_inj {a b : ByteArray} (h : litOf (.string a) = litOf (.string b)) : a = b := by
  simp only [litOf, Lit.string.injEq] at h
  cases a; cases b
  congr 1
  exact Array.toList_inj.1 h

/-- A value is set at a key of a map that stands for entries. -/
theorem put_ok {w : World} {b : Nat} {es : Array MapEntry} (hes : ∀ x ∈ es.toList, ∃ k : ByteArray, x.key = .string k) (h : w.ownsMap Tryz.prog 9 RH b (lim + 1) (.map ((es.toList.map fun x => (litOf x.key, DataW.held x.val)).foldr DataW.insert []))) (s : ByteArray) (hs : s.size ≤ mostLen) (g : Value) :
    ∃ w' es2 clk2, (Instr.mapUpdate 83 (.map (some b)) (.string s) g).run Tryz.prog w = .ok () w' ∧ w.grownBy w' (some b) ∧ w'.heap[b]? = some (.map es2 clk2) ∧ MapKept.Stamped es2 clk2 ∧
      (∀ x ∈ es2.toList, (x.key = .string s ∧ x.val = g) ∨ ∃ e ∈ es.toList, e.key = x.key ∧ e.val = x.val ∧ e.key ≠ .string s) ∧
      (∃ x ∈ es2.toList, x.key = .string s ∧ x.val = g) ∧ (∀ e ∈ es.toList, e.key ≠ .string s → ∃ x ∈ es2.toList, x.key = e.key ∧ x.val = e.val) := by
  have K : Maps.Keyed Tryz.prog 9 := Maps.string_keyed Tryz.underlying9
  have hsl : s.size ≤ maxLen := by unfold mostLen at hs; unfold maxLen; omega
  obtain ⟨w', hrun, ⟨es2, clk2, hb2, F2, _, hD⟩, hg⟩ := h.update K Tryz.underlying83 (by unfold lim maxLen; omega) (key := .string s) (val := g) (kl := litOf (.string s)) (d := .held g) (ps := []) (WideMaps.keyOf_string_mk Tryz.underlying9 hsl) rfl
  have hmem : ∀ p, p ∈ es2.toList.map (WideElems.rg Tryz.prog 9 RH) ↔ p = (litOf (.string s), DataW.held g) ∨ (p ∈ (es.toList.map fun x => (litOf x.key, DataW.held x.val)) ∧ p.1.sameKey (litOf (.string s)) = false) := fun p => by
    have e1 : DataW.map (DataW.insert (litOf (.string s), DataW.held g) (((es.toList.map fun x => (litOf x.key, DataW.held x.val)).foldr DataW.insert []).filter fun q => !q.1.sameKey (litOf (.string s)))) = .map ((es2.toList.map (WideElems.rg Tryz.prog 9 RH)).foldr DataW.insert []) := hD
    have e2 := DataW.map.inj e1
    rw [← Go.mem_sorted, ← e2, ChangeMaps.mem_insert_iff, List.mem_filter, Go.mem_sorted]
    simp
  have hrd : ∀ x ∈ es2.toList, ∃ k : ByteArray, x.key = .string k ∧ WideElems.rg Tryz.prog 9 RH x = (litOf x.key, .held x.val) := fun x hx => by
    obtain ⟨y, hy⟩ := F2.reads x hx
    have hk := WideElems.rd_key hy
    obtain ⟨z, hz, hz2⟩ := WideElems.rd_val hy
    simp only [RH, Option.some.injEq] at hz
    subst hz
    rw [keyOf_string Tryz.underlying9] at hk
    unfold mapKey at hk
    rw [Tryz.underlying9] at hk
    cases hx2 : x.key <;> rw [hx2] at hk <;> simp at hk
    rename_i k
    refine ⟨k, rfl, ?_⟩
    rw [WideElems.rg_of hy]
    obtain ⟨y1, y2⟩ := y
    simp only at hz2
    have hk2 : Lit.string k.data.toList = y1 := hk.2
    simp [litOf, hz2, ← hk2]
  refine ⟨w', es2, clk2, hrun, hg, hb2, F2.stamped, fun x hx => ?_, ?_, fun e he hne => ?_⟩
  · obtain ⟨k, hk, hr⟩ := hrd x hx
    rcases (hmem _).1 (List.mem_map.2 ⟨x, hx, hr⟩) with h1 | ⟨h1, h2⟩
    · simp only [Prod.mk.injEq, DataW.held.injEq] at h1
      rw [hk] at h1
      exact .inl ⟨by rw [hk, lit_inj h1.1], h1.2⟩
    · obtain ⟨e, he, hpe⟩ := List.mem_map.1 h1
      simp only [Prod.mk.injEq, DataW.held.injEq] at hpe
      obtain ⟨ke, hke⟩ := hes e he
      rw [hk, hke] at hpe
      have hkk := lit_inj hpe.1
      refine .inr ⟨e, he, by rw [hke, hk, hkk], hpe.2, fun hes' => ?_⟩
      rw [hke] at hes'
      obtain rfl : ke = s := by simpa using hes'
      rw [hk, ← hkk] at h2
      simp [litOf, Lit.sameKey] at h2
  · obtain ⟨x, hx, hr⟩ := List.mem_map.1 ((hmem _).2 (.inl rfl))
    obtain ⟨k, hk, hr2⟩ := hrd x hx
    rw [hr2] at hr
    simp only [Prod.mk.injEq, DataW.held.injEq] at hr
    rw [hk] at hr
    exact ⟨x, hx, by rw [hk, lit_inj hr.1], hr.2⟩
  · obtain ⟨ke, hke⟩ := hes e he
    have hns : (litOf e.key).sameKey (litOf (.string s)) = false := by
      refine Maps.sameKey_ne fun h => hne ?_
      rw [hke] at h
      rw [hke, lit_inj h]
    obtain ⟨x, hx, hr⟩ := List.mem_map.1 ((hmem (litOf e.key, .held e.val)).2 (.inr ⟨List.mem_map.2 ⟨e, he, rfl⟩, hns⟩))
    obtain ⟨k, hk, hr2⟩ := hrd x hx
    rw [hr2] at hr
    simp only [Prod.mk.injEq, DataW.held.injEq] at hr
    rw [hk, hke] at hr
    exact ⟨x, hx, by rw [hk, hke, lit_inj hr.1], hr.2⟩
end Go.Gj
namespace Go.Gj
set_option linter.unusedSimpArgs false
set_option linter.unusedVariables false
set_option linter.unnecessarySimpa false
open Go Go.RowKit Go.Proofs

theorem AVals_put {w : World} {S : Nat → Prop} {es2 : Array MapEntry} {s : ByteArray} {u : J} (hs : ∃ x ∈ es2.toList, x.key = .string s ∧ ARep w S u x.val) : ∀ (ks : List ByteArray) (vs : List J), ks.length = vs.length → rises ks →
    (∀ i (hi : i < ks.length) (hv : i < vs.length), ks[i] ≠ s → ∃ x ∈ es2.toList, x.key = .string ks[i] ∧ ARep w S vs[i] x.val) → AVals w S es2 (putK ks vs s u).1 (putK ks vs s u).2
  | [], [], _, _, _ => ⟨s, [], rfl, hs, rfl⟩
  | [], _ :: _, hl, _, _ => by simp at hl
  | _ :: _, [], hl, _, _ => by simp at hl
  | k :: ks, v :: vs, hl, hri, h => by
    have hl' : ks.length = vs.length := by simpa using hl
    have hold : ∀ (ks : List ByteArray) (vs : List J), ks.length = vs.length → s ∉ ks → (∀ i (hi : i < ks.length) (hv : i < vs.length), ks[i] ≠ s → ∃ x ∈ es2.toList, x.key = .string ks[i] ∧ ARep w S vs[i] x.val) → AVals w S es2 ks vs := by
      intro ks
      induction ks with
      | nil => intro vs hl _ _; cases vs <;> simp_all [AVals]
      | cons a l ih =>
        intro vs hl hn h
        cases vs with
        | nil => simp at hl
        | cons b m =>
          refine ⟨a, l, rfl, h 0 (by simp) (by simp) (fun e => hn (by simp only [List.getElem_cons_zero] at e; simp [e])), ih m (by simpa using hl) (fun hx => hn (List.mem_cons_of_mem _ hx)) fun i hi hv hne => ?_⟩
          have := h (i + 1) (by simp; omega) (by simp; omega) (by simpa only [List.getElem_cons_succ] using hne)
          simpa only [List.getElem_cons_succ] using this
    have htail : ∀ i (hi : i < ks.length) (hv : i < vs.length), ks[i] ≠ s → ∃ x ∈ es2.toList, x.key = .string ks[i] ∧ ARep w S vs[i] x.val := fun i hi hv hne => by
      have := h (i + 1) (by simp; omega) (by simp; omega) (by simpa only [List.getElem_cons_succ] using hne)
      simpa only [List.getElem_cons_succ] using this
    have hnd := rises_nodup hri
    unfold putK
    split
    · rename_i hlt
      have hne : k ≠ s := by rintro rfl; rw [slt_irrefl] at hlt; cases hlt
      exact ⟨k, _, rfl, h 0 (by simp) (by simp) (by simpa using hne), AVals_put hs ks vs hl' (rises_tail hri) htail⟩
    · split
      · rename_i hlt hk
        subst hk
        exact ⟨k, ks, rfl, hs, hold ks vs hl' (List.nodup_cons.1 hnd).1 htail⟩
      · rename_i hlt hk
        refine ⟨s, _, rfl, hs, hold (k :: ks) (v :: vs) hl ?_ h⟩
        intro hm
        rcases List.mem_cons.1 hm with e | hm
        · exact hk e.symm
        · exact hlt (rises_all hri s hm)

/-- What stands for an object whose value at a key was set. -/
theorem put_rep {w : World} {S : Nat → Prop} {es es2 : Array MapEntry} {clk2 : Nat} {ks : List ByteArray} {vs : List J} {s : ByteArray} {u : J} {g : Value} (hp : (es.toList.map (·.key)).Perm (ks.map Value.string)) (hri : rises ks) (hl : ks.length = vs.length) (ha : AVals w S es ks vs) (hst : MapKept.Stamped es2 clk2)
    (h1 : ∀ x ∈ es2.toList, (x.key = .string s ∧ x.val = g) ∨ ∃ e ∈ es.toList, e.key = x.key ∧ e.val = x.val ∧ e.key ≠ .string s) (h2 : ∃ x ∈ es2.toList, x.key = .string s ∧ x.val = g) (h3 : ∀ e ∈ es.toList, e.key ≠ .string s → ∃ x ∈ es2.toList, x.key = e.key ∧ x.val = e.val) (hu : ARep w S u g) :
    (es2.toList.map (·.key)).Perm ((putK ks vs s u).1.map Value.string) ∧ AVals w S es2 (putK ks vs s u).1 (putK ks vs s u).2 := by
  refine ⟨?_, AVals_put ?_ ks vs hl hri fun i hi hv hne => ?_⟩
  · have hnd2 : ((putK ks vs s u).1.map Value.string).Nodup := List.Pairwise.map _ (fun a b hab e => hab (by cases e; rfl)) (rises_nodup (putK_rises ks vs s u hl hri))
    refine (List.perm_ext_iff_of_nodup hst.2.2 hnd2).2 fun v => ?_
    constructor
    · intro hv
      obtain ⟨x, hx, rfl⟩ := List.mem_map.1 hv
      rcases h1 x hx with ⟨hk, _⟩ | ⟨e, he, hk, _, _⟩
      · rw [hk]; exact List.mem_map.2 ⟨s, (putK_keys ks vs s u hl s).2 (.inr rfl), rfl⟩
      · obtain ⟨k, hkm, hke⟩ := List.mem_map.1 (hp.mem_iff.1 (List.mem_map.2 ⟨e, he, rfl⟩))
        rw [← hk, ← hke]
        exact List.mem_map.2 ⟨k, (putK_keys ks vs s u hl k).2 (.inl hkm), rfl⟩
    · intro hv
      obtain ⟨k, hk, rfl⟩ := List.mem_map.1 hv
      by_cases hks : k = s
      · subst hks
        obtain ⟨x, hx, hxk, _⟩ := h2
        exact List.mem_map.2 ⟨x, hx, hxk⟩
      · rcases (putK_keys ks vs s u hl k).1 hk with hkm | hkm
        · obtain ⟨e, he, hek⟩ := List.mem_map.1 (hp.mem_iff.2 (List.mem_map.2 ⟨k, hkm, rfl⟩))
          obtain ⟨x, hx, hxk, _⟩ := h3 e he (fun h => hks (by rw [hek] at h; simpa using h))
          exact List.mem_map.2 ⟨x, hx, hxk.trans hek⟩
        · exact absurd hkm hks
  · obtain ⟨x, hx, hk, hv⟩ := h2
    exact ⟨x, hx, hk, hv ▸ hu⟩
  · obtain ⟨e, he, hek, hr⟩ := AVals.at2 ks vs ha i hi hv
    obtain ⟨x, hx, hxk, hxv⟩ := h3 e he (fun h => hne (by rw [hek] at h; simpa using h))
    exact ⟨x, hx, hxk.trans hek, hxv ▸ hr⟩
end Go.Gj

/-
  gojq: updateObject, over what update does with the rest of the path.
-/
namespace Go.Gj
set_option linter.unusedSimpArgs false
set_option linter.unusedVariables false
set_option linter.unnecessarySimpa false
open Go Go.RowKit Go.Proofs

theorem ne_empty {x : J} {w : World} {S : Nat → Prop} {g : Value} (h : ARep w S x g) (w' : World) : (binOp .eql 20 g (.iface 141 (.agg #[]))).run Tryz.prog w' = .ok (.bool false) w' := by
  cases x with
  | null => obtain rfl : g = .nilIface := h; kernel_rfl
  | bool b => obtain rfl : g = .iface 4 (.bool b) := h; kernel_rfl
  | num n =>
    rcases h with ⟨_, _, _, rfl⟩ | ⟨_, _, rfl⟩
    · kernel_rfl
    · kernel_rfl
  | str s => obtain rfl : g = .iface 9 (.string s) := h.1; kernel_rfl
  | arr l => obtain ⟨b, o, c, rfl, _⟩ := h; kernel_rfl
  | obj ks vs => obtain ⟨r, es, clk, rfl, _⟩ := h; kernel_rfl

theorem eg_empty {x : J} {w : World} {S : Nat → Prop} {g : Value} (h : ARep w S x g) (a b : Operand) (w' : World) : (eqGuard .eql 20 a b g (.iface 141 (.agg #[]))).run Tryz.prog w' = .ok () w' := by
  cases x with
  | null => obtain rfl : g = .nilIface := h; kernel_rfl
  | bool b => obtain rfl : g = .iface 4 (.bool b) := h; kernel_rfl
  | num n =>
    rcases h with ⟨_, _, _, rfl⟩ | ⟨_, _, rfl⟩
    · kernel_rfl
    · kernel_rfl
  | str s => obtain rfl : g = .iface 9 (.string s) := h.1; kernel_rfl
  | arr l => obtain ⟨b, o, c, rfl, _⟩ := h; kernel_rfl
  | obj ks vs => obtain ⟨r, es, clk, rfl, _⟩ := h; kernel_rfl

set_option maxRecDepth 100000 in
theorem allocated_ok (m g : Value) (w : World) : Calls Tryz.prog 296 #[m, g] w fun e w' => e = .returned (.bool false) ∧ w' = w := by
  go_enter Tryz.func296, Tryz.ntmps296
  go_wp2_with fail
  exact bodyPost_ret (v := .bool false) (by simp [results, Tryz.results296, go_sem]) rfl ⟨rfl, rfl⟩

set_option maxRecDepth 100000 in
theorem makeObject_ok (n : Int) (w : World) : Calls Tryz.prog 297 #[.map none, .int .i64 n] w fun e w' => e = .returned (.map (some w.heap.size)) ∧ w' = w.alloc (.map #[] 0) := by
  have hm := run_makeMap83 w n
  go_enter Tryz.func297, Tryz.ntmps297
  go_wp2_with fail
  exact bodyPost_ret (v := .map (some w.heap.size)) (by simp [results, Tryz.results297, go_sem]) rfl ⟨rfl, rfl⟩

/-- A path's rest, as a slice. -/
def PSl (w : World) (p : List J) (v : Value) : Prop := ∃ a c, v = .slice a p.length c ∧ p.length ≤ c ∧ c ≤ capMost ∧ (p = [] ∨ ∃ b o, a = some ⟨b, o, none⟩ ∧ b < w.heap.size ∧ ACells w (allB w) b p o)

/-- What update answers. -/
def UpIs (w : World) (a : Option J) (w' : World) (e : Ending) : Prop := match a with
  | some r => ∃ g, e = .returned (.tuple #[g, .nilIface]) ∧ Below w.heap.size w w' ∧ ARep w' (allB w') r g
  | none => ∃ t v, e = .returned (.tuple #[.nilIface, .iface t v]) ∧ Below w.heap.size w w'

def UpOk (p : List J) : Prop := ∀ (v x : J) (w : World) (gv gx vp : Value), v.ok → ARep w (allB w) v gv → ARep w (allB w) x gx → PSl w p vp →
  Calls Tryz.prog 186 #[gv, vp, gx, .map none] w fun e w' => UpIs w (setJ v p x) w' e

/-- A map that stands for an object, or none. -/
def SrcO (w : World) (ps : Option Nat) (ks : List ByteArray) (vs : List J) : Prop := (ps = none ∧ ks = [] ∧ vs = []) ∨ ∃ r, ps = some r ∧ ARep w (allB w) (.obj ks vs) (.iface 83 (.map (some r)))

theorem SrcO.look {w : World} {ps : Option Nat} {ks : List ByteArray} {vs : List J} (h : SrcO w ps ks vs) (hv : (J.obj ks vs).ok) (s : ByteArray) :
    ∃ (g : Value) (b : Bool), (Instr.lookup 83 (.map ps) (.string s) true).run Tryz.prog w = .ok (.tuple #[g, .bool b]) w ∧ ARep w (allB w) (getK ks vs s) g := by
  rcases h with ⟨rfl, rfl, rfl⟩ | ⟨r, rfl, r', es, clk, he, _, hh, _, hp, _, ha⟩
  · exact ⟨.nilIface, false, run_lookup_nil w s true, rfl⟩
  · obtain rfl : r' = r := by simpa using he.symm
    obtain ⟨g, b, _, hl, hg⟩ := obj_lookup hh hp hv.2.2.1 hv.1 ha s true
    exact ⟨g, b, hl w hh, hg⟩

theorem SrcO.len {w : World} {ps : Option Nat} {ks : List ByteArray} {vs : List J} (h : SrcO w ps ks vs) (hv : (J.obj ks vs).ok) : ∃ n : Nat, n ≤ lim ∧ ∀ ty, (Builtin.len_ #[83] ty #[.map ps]).run Tryz.prog w = .ok (.int .i64 n) w := by
  rcases h with ⟨rfl, rfl, rfl⟩ | ⟨r, rfl, r', es, clk, he, _, hh, _, hp, _, ha⟩
  · exact ⟨0, Nat.zero_le _, fun ty => by kernel_rfl⟩
  · obtain rfl : r' = r := by simpa using he.symm
    have := hp.length_eq
    simp only [List.length_map, Array.length_toList] at this
    refine ⟨es.size, by rw [this]; have h1 := hv.1; have h2 := hv.2.1; omega, fun ty => ?_⟩
    have hg : goInt (es.size : Int) = .int .i64 es.size := by
      have h1 := hv.1; have h2 := hv.2.1; unfold lim at h2
      unfold goInt
      rfl
    simp [Builtin.len_, getObj, hh, Sem.run, hg]

theorem SrcO.below {w w' : World} {ps : Option Nat} {ks : List ByteArray} {vs : List J} (h : SrcO w ps ks vs) (hb : Below w.heap.size w w') : SrcO w' ps ks vs := by
  rcases h with h | ⟨r, hr, ha⟩
  · exact .inl h
  · exact .inr ⟨r, hr, (ha.below hb fun _ h => h).mono fun b h => Nat.lt_of_lt_of_le h hb.size⟩

theorem SrcO.es {w w' : World} {ps : Option Nat} {ks : List ByteArray} {vs : List J} (h : SrcO w ps ks vs) (hv : (J.obj ks vs).ok) (hb : Below w.heap.size w w') :
    ∃ es : Array MapEntry, ((ps = none ∧ es = #[]) ∨ ∃ r clk, ps = some r ∧ w'.heap[r]? = some (.map es clk) ∧ TextMap es clk) ∧ (es.toList.map (·.key)).Perm (ks.map Value.string) ∧ AVals w (allB w) es ks vs := by
  rcases h with ⟨rfl, rfl, rfl⟩ | ⟨r, rfl, r', es, clk, he, hr, hh, hs, hp, hk, ha⟩
  · exact ⟨#[], .inl ⟨rfl, rfl⟩, List.Perm.refl _, rfl⟩
  · obtain rfl : r' = r := by simpa using he.symm
    refine ⟨es, .inr ⟨r', clk, rfl, (hb.block r' hr).trans hh, hs, fun x hx => ?_, ?_⟩, hp, ha⟩
    · obtain ⟨k, hkm, e⟩ := List.mem_map.1 (hp.mem_iff.1 (List.mem_map.2 ⟨x, hx, rfl⟩))
      exact ⟨k, e.symm, hk k hkm⟩
    · have := hp.length_eq
      simp only [List.length_map, Array.length_toList] at this
      rw [this]; have h1 := hv.1; have h2 := hv.2.1; omega

theorem TextMap_keys {w' : World} {ps : Option Nat} {es : Array MapEntry} (h : (ps = none ∧ es = #[]) ∨ ∃ r clk, ps = some r ∧ w'.heap[r]? = some (.map es clk) ∧ TextMap es clk) : ∀ x ∈ es.toList, ∃ k : ByteArray, x.key = .string k := by
  rcases h with ⟨_, rfl⟩ | ⟨r, clk, _, _, ht⟩
  · intro x hx; simp at hx
  · intro x hx; obtain ⟨k, hk, _⟩ := ht.keys x hx; exact ⟨k, hk⟩

theorem object_put {w w1 w2 w3 : World} {ks : List ByteArray} {vs : List J} {s : ByteArray} {r : J} {g : Value} {es es2 : Array MapEntry} {clk2 : Nat} (hv : (J.obj ks vs).ok) (hs : s.size ≤ mostLen) (hp : (es.toList.map (·.key)).Perm (ks.map Value.string)) (ha : AVals w (allB w) es ks vs) (hb : Below w.heap.size w w1) (hr : ARep w1 (allB w1) r g)
    (h : (w1.alloc (.map #[] 0)).grownBy w2 (some w1.heap.size) ∧ w2.grownBy w3 (some w1.heap.size) ∧ w3.heap[w1.heap.size]? = some (.map es2 clk2) ∧ MapKept.Stamped es2 clk2 ∧
      (∀ x ∈ es2.toList, (x.key = .string s ∧ x.val = g) ∨ ∃ e ∈ es.toList, e.key = x.key ∧ e.val = x.val ∧ e.key ≠ .string s) ∧
      (∃ x ∈ es2.toList, x.key = .string s ∧ x.val = g) ∧ (∀ e ∈ es.toList, e.key ≠ .string s → ∃ x ∈ es2.toList, x.key = e.key ∧ x.val = e.val)) :
    Below w.heap.size w w3 ∧ ARep w3 (allB w3) (.obj (putK ks vs s r).1 (putK ks vs s r).2) (.iface 83 (.map (some w1.heap.size))) := by
  obtain ⟨hg2, hg3, hh3, hst, q1, q2, q3⟩ := h
  have hsz2 := hg2.size
  simp only [size_alloc] at hsz2
  have hb13 : Below w1.heap.size w1 w3 := (((Below.refl _ w1).alloc (Nat.le_refl _) _).grown hg2 (by simp) (fun j hj => by cases hj; exact Nat.le_refl _)).grown hg3 (by omega) (fun j hj => by cases hj; exact Nat.le_refl _)
  have hb03 : Below w.heap.size w w3 := hb.trans (hb13.mono hb.size)
  have ha3 : AVals w3 (allB w3) es ks vs := AVals.keep (.of_below hb03 fun _ h => h) (fun b h => Nat.lt_of_lt_of_le h hb03.size) _ _ _ ha
  have hr3 : ARep w3 (allB w3) r g := (hr.below hb13 fun _ h => h).mono fun b h => Nat.lt_of_lt_of_le h hb13.size
  obtain ⟨k1, k2⟩ := put_rep hp hv.2.2.1 hv.1 ha3 hst q1 q2 q3 hr3
  refine ⟨hb03, w1.heap.size, es2, clk2, rfl, (Array.getElem?_eq_some_iff.1 hh3).1, hh3, hst, k1, fun k hk => ?_, k2⟩
  rcases (putK_keys ks vs s r hv.1 k).1 hk with h | rfl
  · have := hv.2.2.2.1 k h; unfold lim at this; unfold mostLen; omega
  · exact hs

set_option maxHeartbeats 1000000 in
set_option maxRecDepth 100000 in
theorem updateObject_ok (p : List J) (ih : UpOk p) (ps : Option Nat) (ks : List ByteArray) (vs : List J) (s : ByteArray) (hsz : s.size ≤ mostLen) (hv : (J.obj ks vs).ok) (x : J) (w : World) (gx vp : Value) (hsrc : SrcO w ps ks vs) (hx : ARep w (allB w) x gx) (hp : PSl w p vp) :
    Calls Tryz.prog 235 #[.map ps, .string s, vp, gx, .map none] w fun e w' => UpIs w ((setJ (getK ks vs s) p x).map fun u => .obj (putK ks vs s u).1 (putK ks vs s u).2) w' e := by
  obtain ⟨g0, b0, hlk, hg0⟩ := hsrc.look hv s
  have hne := ne_empty hx
  have heg := eg_empty hx
  have hgk : (getK ks vs s).ok := by
    have := (oks_iff vs).1 hv.2.2.2.2
    by_cases hm : s ∈ ks
    · obtain ⟨i, hi, rfl⟩ := List.getElem_of_mem hm
      rw [getK_at ks vs (rises_nodup hv.2.2.1) i hi (by have := hv.1; omega)]
      exact this _ (List.getElem_mem _)
    · rw [getK_none ks vs s hm]; trivial
  have HC := Lib.hid (ih (getK ks vs s) x w g0 gx vp hgk hg0 hx hp)
  have HS := Lib.hid hsrc
  have HV := Lib.hid hv
  have HSZ := Lib.hid hsz
  obtain ⟨pa, pc, rfl, _⟩ := hp
  clear hsrc hx hgk ih hg0 hsz hv
  cases hset : setJ (getK ks vs s) p x with
  | none =>
    have HC2 : Hid (Calls Tryz.prog 186 #[g0, .slice pa p.length pc, gx, .map none] w fun e w' => ∃ t v, e = .returned (.tuple #[.nilIface, .iface t v]) ∧ Below w.heap.size w w') := by
      have := HC.out; rw [hset] at this; exact Lib.hid this
    clear hset HC
    cases b0
    all_goals
      go_enter Tryz.func235, Tryz.ntmps235
      go_wp2_with (go_at_call 186; refine HC2.out.mono ?_; rintro e w1 ⟨t, v, rfl, hb⟩)
      exact bodyPost_ret (v := .tuple #[.nilIface, .iface t v]) (by simp [results, Tryz.results235, go_sem]) rfl ⟨t, v, rfl, hb⟩
  | some r =>
    have HC2 : Hid (Calls Tryz.prog 186 #[g0, .slice pa p.length pc, gx, .map none] w fun e w' => ∃ g, e = .returned (.tuple #[g, .nilIface]) ∧ Below w.heap.size w w' ∧ ARep w' (allB w') r g) := by
      have := HC.out; rw [hset] at this; exact Lib.hid this
    clear hset HC
    cases b0
    all_goals
      go_enter Tryz.func235, Tryz.ntmps235
      go_upto_region 9 with (go_at_call 186; refine HC2.out.mono ?_; rintro e w1 ⟨g, rfl, hb, hr⟩)
      obtain ⟨es, hes, hperm, hav⟩ := HS.out.es HV.out hb
      obtain ⟨n, hn, hlen⟩ := (HS.out.below hb).len HV.out
      have hwr : IntKind.i64.wrap ((n : Int) + 1) = n + 1 := by unfold lim at hn; rw [IntKind.wrap_i64]; omega
      have HCP := Lib.hid (copy_ok ps es w1 hes)
      have HPU := Lib.hid (fun (w2 : World) h => put_ok (w := w2) (b := w1.heap.size) (es := es) (TextMap_keys hes) h s HSZ.out g)
      have HF := Lib.hid (And.intro hperm (And.intro hav (And.intro hb hr)))
      clear hes hperm hav hb hr hn
      go_wp2_with (first | (go_at_call 296; refine (allocated_ok _ _ _).mono ?_; rintro e w1 ⟨rfl, rfl⟩) | (go_at_call 297; refine (makeObject_ok _ _).mono ?_; rintro e w2 ⟨rfl, rfl⟩) | (go_at_call 183; refine HCP.out.mono ?_; rintro e w2 ⟨rfl, hg2, ho2⟩; obtain ⟨w3, es2, clk2, hrun, hg3, hh3, hst3, q1, q2, q3⟩ := HPU.out w2 ho2; have HQ := Lib.hid (And.intro hg2 (And.intro hg3 (And.intro hh3 (And.intro hst3 (And.intro q1 (And.intro q2 q3)))))); clear ho2 hg2 hg3 hh3 hst3 q1 q2 q3))
      refine bodyPost_ret (v := .tuple #[.iface 83 (.map (some w1.heap.size)), .nilIface]) (by simp [results, Tryz.results235, go_sem]) rfl ?_
      exact ⟨_, rfl, object_put HV.out HSZ.out HF.out.1 HF.out.2.1 HF.out.2.2.1 HF.out.2.2.2 HQ.out⟩
end Go.Gj
