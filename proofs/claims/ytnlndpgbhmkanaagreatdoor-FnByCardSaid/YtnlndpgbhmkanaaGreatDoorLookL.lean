/-
  A map of strings to values of any: what a look-up and a store do.
-/
import Derived.Test.YtnlndpgbhmkanaaGreatDoorKitX
import Derived.WideMake
import Derived.Test.YtnlndpgbhmkanaaGreatDoorPlP
namespace Go.Gj
open Go Go.RowKit Go.Proofs

/-- The world with another map in a block. -/
def setMap (w : World) (b : Nat) (es : Array MapEntry) (clk : Nat) : World := { w with heap := w.heap.setIfInBounds b (.map es clk) }

theorem setMap_size (w : World) (b : Nat) (es : Array MapEntry) (clk : Nat) : (setMap w b es clk).heap.size = w.heap.size := by simp [setMap]
theorem setMap_same (w : World) (b : Nat) (es : Array MapEntry) (clk : Nat) (h : b < w.heap.size) : (setMap w b es clk).heap[b]? = some (.map es clk) := by simp [setMap, h]
theorem setMap_other (w : World) (b : Nat) (es : Array MapEntry) (clk : Nat) (k : Nat) (h : k ≠ b) : (setMap w b es clk).heap[k]? = w.heap[k]? := by
  simp only [setMap]; rw [Array.getElem?_setIfInBounds]; rw [if_neg (Ne.symm h)]
theorem below_setMap (w : World) (b : Nat) (es : Array MapEntry) (clk : Nat) {B : Nat} (h : B ≤ b) : Below B w (setMap w b es clk) :=
  ⟨rfl, rfl, rfl, by simp [setMap], fun k hk => setMap_other w b es clk k (by omega)⟩

theorem u83 : Tryz.prog.underlying 83 = some (.map 9 20) := Tryz.underlying83
theorem u9 : Tryz.prog.underlying 9 = some .string := Tryz.underlying9

theorem ba_eq (s : ByteArray) : (s == s) = true := by
  rcases s with ⟨a⟩
  show (a == a) = true
  exact beq_self_eq_true a
theorem ba_ne {s k : ByteArray} (h : s ≠ k) : (s == k) = false := by
  rcases s with ⟨a⟩; rcases k with ⟨b⟩
  show (a == b) = false
  exact beq_eq_false_iff_ne.2 fun e => h (by rw [e])

/-- Keys that are strings. -/
def StrKeys (es : List MapEntry) (ks : List ByteArray) : Prop := es.map (·.key) = ks.map Value.string

theorem findNow_none : ∀ (es : List MapEntry) (ks : List ByteArray) (s : ByteArray) (i : Nat), StrKeys es ks → s ∉ ks → Instr.findNow .string (.string s) es i = some none
  | [], _, _, _, _, _ => rfl
  | e :: es, [], s, i, h, _ => by simp [StrKeys] at h
  | e :: es, k :: ks, s, i, h, hs => by
    simp only [StrKeys, List.map_cons, List.cons.injEq] at h
    have hne : (s == k) = false := ba_ne (by rintro rfl; exact hs List.mem_cons_self)
    have ih := findNow_none es ks s (i + 1) h.2 fun hm => hs (List.mem_cons_of_mem _ hm)
    unfold Instr.findNow
    rw [h.1]
    simp only [Instr.sameNow, hne]
    exact ih

theorem findNow_some : ∀ (es : List MapEntry) (s : ByteArray) (i : Nat), (∀ e ∈ es, ∃ k, e.key = .string k) → (es.map (·.key)).Nodup → ∀ e ∈ es, e.key = .string s → ∃ j, Instr.findNow .string (.string s) es i = some (some (i + j, e.val)) ∧ es[j]? = some e
  | [], _, _, _, _, e, he, _ => by cases he
  | a :: es, s, i, h, hnd, e, he, hk => by
    obtain ⟨k, hka⟩ := h a List.mem_cons_self
    unfold Instr.findNow
    rw [hka]
    simp only [Instr.sameNow]
    rcases List.mem_cons.1 he with rfl | he'
    · rw [hka] at hk; cases hk
      have hss : (s == s) = true := ba_eq s
      exact ⟨0, by rw [hss]; rfl, rfl⟩
    · have hne : (s == k) = false := ba_ne (by
        rintro rfl
        simp only [List.map_cons, List.nodup_cons] at hnd
        exact hnd.1 (List.mem_map.2 ⟨e, he', by rw [hk, hka]⟩))
      rw [hne]
      obtain ⟨j, h1, h2⟩ := findNow_some es s (i + 1) (fun x hx => h x (List.mem_cons_of_mem _ hx)) (List.nodup_cons.1 hnd).2 e he' hk
      exact ⟨j + 1, by simp only [h1]; congr 3; omega, by simpa using h2⟩

theorem run_findKey {w : World} {es : List MapEntry} {s : ByteArray} {r : Option (Nat × Value)} (h : Instr.findNow .string (.string s) es 0 = some r) : (Instr.findKey 9 (.string s) es).run Tryz.prog w = .ok r w := by
  simp [Instr.findKey, run_underlying u9, h]

/-- A new key. -/
theorem run_update_new {w : World} {b : Nat} {es : Array MapEntry} {clk : Nat} (ks : List ByteArray) (s : ByteArray) (v : Value) (hb : w.heap[b]? = some (.map es clk)) (hk : StrKeys es.toList ks) (hs : s ∉ ks) :
    (Instr.mapUpdate 83 (.map (some b)) (.string s) v).run Tryz.prog w = .ok () (setMap w b (es.push { key := .string s, val := v, born := clk }) (clk + 1)) := by
  have hc : (Instr.checkKey false 10000 9 (.string s)).run Tryz.prog w = .ok () w := MapKept.run_checkKey (k := .string s) u9 (by simp [MapKept.IsKey]) false 9999
  have hf := run_findKey (w := w) (findNow_none es.toList ks s 0 hk hs)
  simp [Instr.mapUpdate, run_underlying u83, getObj, setObj, hb, Sem.run, hc, hf, setMap]

/-- A look-up. -/
theorem run_lookup_none {w : World} {b : Nat} {es : Array MapEntry} {clk : Nat} (ks : List ByteArray) (s : ByteArray) (hb : w.heap[b]? = some (.map es clk)) (hk : StrKeys es.toList ks) (hs : s ∉ ks) (ok : Bool) :
    (Instr.lookup 83 (.map (some b)) (.string s) ok).run Tryz.prog w = .ok (if ok then .tuple #[.nilIface, .bool false] else .nilIface) w := by
  have hc : (Instr.checkKey es.isEmpty 10000 9 (.string s)).run Tryz.prog w = .ok () w := MapKept.run_checkKey (k := .string s) u9 (by simp [MapKept.IsKey]) _ 9999
  have hf := run_findKey (w := w) (findNow_none es.toList ks s 0 hk hs)
  have hz : (zeroValue 20).run Tryz.prog w = .ok .nilIface w := by kernel_rfl
  cases ok <;> simp [Instr.lookup, run_underlying u83, getObj, hb, Sem.run, hc, hf, hz]

theorem run_lookup_some {w : World} {b : Nat} {es : Array MapEntry} {clk : Nat} (s : ByteArray) (e : MapEntry) (hb : w.heap[b]? = some (.map es clk)) (hk : ∀ x ∈ es.toList, ∃ k, x.key = .string k) (hnd : (es.toList.map (·.key)).Nodup) (he : e ∈ es.toList) (hs : e.key = .string s) (ok : Bool) :
    (Instr.lookup 83 (.map (some b)) (.string s) ok).run Tryz.prog w = .ok (if ok then .tuple #[e.val, .bool true] else e.val) w := by
  have hc : (Instr.checkKey es.isEmpty 10000 9 (.string s)).run Tryz.prog w = .ok () w := MapKept.run_checkKey (k := .string s) u9 (by simp [MapKept.IsKey]) _ 9999
  obtain ⟨j, h1, _⟩ := findNow_some es.toList s 0 hk hnd e he hs
  have hf := run_findKey (w := w) h1
  cases ok <;> simp [Instr.lookup, run_underlying u83, getObj, hb, Sem.run, hc, hf]

theorem run_lookup_nil (w : World) (s : ByteArray) (ok : Bool) :
    (Instr.lookup 83 (.map none) (.string s) ok).run Tryz.prog w = .ok (if ok then .tuple #[.nilIface, .bool false] else .nilIface) w := by
  have hc : (Instr.checkKey true 10000 9 (.string s)).run Tryz.prog w = .ok () w := MapKept.run_checkKey (k := .string s) u9 (by simp [MapKept.IsKey]) _ 9999
  have hf := run_findKey (w := w) (findNow_none [] [] s 0 rfl (by simp))
  have hz : (zeroValue 20).run Tryz.prog w = .ok .nilIface w := by kernel_rfl
  cases ok <;> simp [Instr.lookup, run_underlying u83, hc, hf, hz]

theorem run_makeMap83 (w : World) (n : Int) : (Instr.makeMap 83 (some (.int .i64 n))).run Tryz.prog w = .ok (.map (some w.heap.size)) (w.alloc (.map #[] 0)) := by
  have ha : (asInt (.int .i64 n)).run Tryz.prog w = .ok n w := rfl
  simp [Instr.makeMap, run_underlying u83, ha]
#print axioms run_lookup_some
end Go.Gj

/-
  A look-up in a map of any that stands for an object.
-/
namespace Go.Gj
set_option linter.unusedSimpArgs false
set_option linter.unusedVariables false
set_option linter.unnecessarySimpa false
open Go Go.RowKit Go.Proofs

theorem AVals.at2 {w : World} {S : Nat → Prop} {es : Array MapEntry} : ∀ (ks : List ByteArray) (vs : List J), AVals w S es ks vs → ∀ i (hi : i < ks.length) (hv : i < vs.length), ∃ e ∈ es.toList, e.key = .string ks[i] ∧ ARep w S vs[i] e.val
  | _, [], _, _, _, hv => by simp at hv
  | _, _ :: _, ⟨_, _, rfl, h, _⟩, 0, _, _ => h
  | _, _ :: vs, ⟨_, ks', rfl, _, h⟩, i + 1, hi, hv => by simpa using AVals.at2 ks' vs h i (by simpa using hi) (by simpa using hv)

theorem keys_perm {es : Array MapEntry} {ks : List ByteArray} (hp : (es.toList.map (·.key)).Perm (ks.map Value.string)) : ∃ ks' : List ByteArray, es.toList.map (·.key) = ks'.map Value.string ∧ ks'.Perm ks := by
  obtain ⟨ks', h1, h2⟩ : ∃ ks' : List ByteArray, es.toList.map (·.key) = ks'.map Value.string ∧ True := by
    have : ∀ x ∈ es.toList.map (·.key), ∃ k : ByteArray, x = Value.string k := fun x hx => by
      obtain ⟨k, _, rfl⟩ := List.mem_map.1 (hp.mem_iff.1 hx)
      exact ⟨k, rfl⟩
    revert this
    generalize es.toList.map (·.key) = l
    intro h
    induction l with
    | nil => exact ⟨[], rfl, trivial⟩
    | cons x l ih =>
      obtain ⟨k, rfl⟩ := h x List.mem_cons_self
      obtain ⟨ks', e, _⟩ := ih fun y hy => h y (List.mem_cons_of_mem _ hy)
      exact ⟨k :: ks', by rw [List.map_cons, e], trivial⟩
  refine ⟨ks', h1, ?_⟩
  rw [h1] at hp
  have := hp.map (fun v : Value => match v with | .string s => s | _ => ByteArray.empty)
  simpa [List.map_map, Function.comp_def] using this

theorem obj_lookup {w : World} {S : Nat → Prop} {ks : List ByteArray} {vs : List J} {r : Nat} {es : Array MapEntry} {clk : Nat} (hh : w.heap[r]? = some (.map es clk)) (hp : (es.toList.map (·.key)).Perm (ks.map Value.string)) (hri : rises ks) (hl : ks.length = vs.length) (ha : AVals w S es ks vs) (s : ByteArray) (ok : Bool) :
    ∃ (g : Value) (b : Bool), (b = true ↔ s ∈ ks) ∧ (∀ w' : World, w'.heap[r]? = some (.map es clk) → (Instr.lookup 83 (.map (some r)) (.string s) ok).run Tryz.prog w' = .ok (if ok then .tuple #[g, .bool b] else g) w') ∧ ARep w S (getK ks vs s) g := by
  obtain ⟨ks', hk', hperm⟩ := keys_perm hp
  have hnd := rises_nodup hri
  by_cases hm : s ∈ ks
  · obtain ⟨i, hi, rfl⟩ := List.getElem_of_mem hm
    obtain ⟨e, he, hek, hr⟩ := AVals.at2 ks vs ha i hi (by omega)
    refine ⟨e.val, true, by simp [hm], fun w' hh' => run_lookup_some ks[i] e hh' (fun x hx => ?_) ?_ he hek ok, by rw [getK_at ks vs hnd i hi (by omega)]; exact hr⟩
    · have : x.key ∈ ks'.map Value.string := hk' ▸ List.mem_map.2 ⟨x, hx, rfl⟩
      obtain ⟨k, _, hk⟩ := List.mem_map.1 this
      exact ⟨k, hk.symm⟩
    · rw [hk']
      have hnd' : ks'.Nodup := hperm.nodup_iff.2 hnd
      exact List.Pairwise.map _ (fun a b hab e => hab (by cases e; rfl)) hnd'
  · exact ⟨.nilIface, false, by simp [hm], fun w' hh' => run_lookup_none ks' s hh' hk' (fun hx => hm (hperm.mem_iff.1 hx)) ok, by rw [getK_none ks vs s hm]; rfl⟩
end Go.Gj
