/-
  A look-up in a map of any that stands for an object.
-/
import Derived.Test.YtnlndpgbhmkanaaGreatDoorPlP
import Derived.Test.YtnlndpgbhmkanaaGreatDoorMapL
namespace Go.Gj
set_option linter.unusedSimpArgs false
set_option linter.unusedVariables false
set_option linter.unnecessarySimpa false
open Go Go.RowKit Go.Proofs

theorem AVals.at2 {w : World} {S : Nat → Prop} {es : Array MapEntry} : ∀ (ks : List ByteArray) (vs : List J), AVals w S es ks vs → ∀ i (hi : i < ks.length) (hv : i < vs.length), ∃ e ∈ es.toList, e.key = .string ks[i] ∧ ARep w S vs[i] e.val
  | _, [], _, _, _, hv => by simp at hv
  | _, _ :: _, ⟨_, _, rfl, h, _⟩, 0, _, _ => h
  | _, _ :: vs, ⟨_, ks', rfl, _, h⟩, i + 1, hi, hv => by simpa using AVals.at2 ks' vs h i (by simpa using hi) (by simpa using hv)

theorem keys_perm {es : Array MapEntry} {ks : List ByteArray} (hp : (es.toList.map (·.key)).Perm (ks.map Value.string)) : ∃ ks' : List ByteArray, es.toList.map (·.key) = ks'.map Value.string ∧ ks'.Perm ks := by
  obtain ⟨ks', h1, h2⟩ : ∃ ks' : List ByteArray, es.toList.map (·.key) = ks'.map Value.string ∧ True := by
    have : ∀ x ∈ es.toList.map (·.key), ∃ k : ByteArray, x = Value.string k := fun x hx => by
      obtain ⟨k, _, rfl⟩ := List.mem_map.1 (hp.mem_iff.1 hx)
      exact ⟨k, rfl⟩
    revert this
    generalize es.toList.map (·.key) = l
    intro h
    induction l with
    | nil => exact ⟨[], rfl, trivial⟩
    | cons x l ih =>
      obtain ⟨k, rfl⟩ := h x List.mem_cons_self
      obtain ⟨ks', e, _⟩ := ih fun y hy => h y (List.mem_cons_of_mem _ hy)
      exact ⟨k :: ks', by rw [List.map_cons, e], trivial⟩
  refine ⟨ks', h1, ?_⟩
  rw [h1] at hp
  have := hp.map (fun v : Value => match v with | .string s => s | _ => ByteArray.empty)
  simpa [List.map_map, Function.comp_def] using this

theorem obj_lookup {w : World} {S : Nat → Prop} {ks : List ByteArray} {vs : List J} {r : Nat} {es : Array MapEntry} {clk : Nat} (hh : w.heap[r]? = some (.map es clk)) (hp : (es.toList.map (·.key)).Perm (ks.map Value.string)) (hri : rises ks) (hl : ks.length = vs.length) (ha : AVals w S es ks vs) (s : ByteArray) (ok : Bool) :
    ∃ (g : Value) (b : Bool), (b = true ↔ s ∈ ks) ∧ (∀ w' : World, w'.heap[r]? = some (.map es clk) → (Instr.lookup 83 (.map (some r)) (.string s) ok).run Tryz.prog w' = .ok (if ok then .tuple #[g, .bool b] else g) w') ∧ ARep w S (getK ks vs s) g := by
  obtain ⟨ks', hk', hperm⟩ := keys_perm hp
  have hnd := rises_nodup hri
  by_cases hm : s ∈ ks
  · obtain ⟨i, hi, rfl⟩ := List.getElem_of_mem hm
    obtain ⟨e, he, hek, hr⟩ := AVals.at2 ks vs ha i hi (by omega)
    refine ⟨e.val, true, by simp [hm], fun w' hh' => run_lookup_some ks[i] e hh' (fun x hx => ?_) ?_ he hek ok, by rw [getK_at ks vs hnd i hi (by omega)]; exact hr⟩
    · have : x.key ∈ ks'.map Value.string := hk' ▸ List.mem_map.2 ⟨x, hx, rfl⟩
      obtain ⟨k, _, hk⟩ := List.mem_map.1 this
      exact ⟨k, hk.symm⟩
    · rw [hk']
      have hnd' : ks'.Nodup := hperm.nodup_iff.2 hnd
      exact List.Pairwise.map _ (fun a b hab e => hab (by cases e; rfl)) hnd'
  · exact ⟨.nilIface, false, by simp [hm], fun w' hh' => run_lookup_none ks' s hh' hk' (fun hx => hm (hperm.mem_iff.1 hx)) ok, by rw [getK_none ks vs s hm]; rfl⟩
end Go.Gj
