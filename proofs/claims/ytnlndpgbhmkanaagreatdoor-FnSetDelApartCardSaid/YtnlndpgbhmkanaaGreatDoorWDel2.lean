/-
  Values of any in which one key of an object is marked: what stands for what is left of them.
-/
import Derived.Test.YtnlndpgbhmkanaaGreatDoorMapD
import Derived.Test.YtnlndpgbhmkanaaGreatDoorWDelA
namespace Go.Gj
set_option linter.unusedSimpArgs false
set_option linter.unusedVariables false
set_option linter.unnecessarySimpa false
open Go Go.RowKit Go.Proofs

theorem AVals.len {w : World} {S : Nat → Prop} {es : Array MapEntry} : ∀ (ks : List ByteArray) (vs : List J), AVals w S es ks vs → ks.length = vs.length
  | ks, [], h => by rw [show ks = [] from h]; rfl
  | ks, x :: xs, h => by
    obtain ⟨k, ks', rfl, _, hx⟩ := h
    simp [AVals.len ks' xs hx]

theorem str_nodup {ks : List ByteArray} (h : ks.Nodup) : (ks.map Value.string).Nodup := List.Pairwise.map _ (fun a b hab e => hab (by cases e; rfl)) h
theorem nodup_str {ks : List ByteArray} (h : (ks.map Value.string).Nodup) : ks.Nodup := by
  rw [List.Nodup, List.pairwise_map] at h
  exact h.imp fun {a b} hab e => hab (by rw [e])

theorem map_inj_nodup {α β : Type} (f : α → β) : ∀ (l : List α), (l.map f).Nodup → ∀ a ∈ l, ∀ b ∈ l, f a = f b → a = b
  | [], _, a, ha, _, _, _ => by cases ha
  | x :: l, h, a, ha, b, hb, e => by
    have h' := List.nodup_cons.1 (show (f x :: l.map f).Nodup from h)
    rcases List.mem_cons.1 ha with rfl | ha' <;> rcases List.mem_cons.1 hb with rfl | hb'
    · rfl
    · exact absurd (List.mem_map.2 ⟨b, hb', e.symm⟩) h'.1
    · exact absurd (List.mem_map.2 ⟨a, ha', e⟩) h'.1
    · exact map_inj_nodup f l h'.2 a ha' b hb' e
theorem key_inj {es : Array MapEntry} (hnd : (es.toList.map (·.key)).Nodup) {a b : MapEntry} (ha : a ∈ es.toList) (hb : b ∈ es.toList) (h : a.key = b.key) : a = b := map_inj_nodup _ _ hnd a ha b hb h
theorem born_inj' {es : Array MapEntry} (hnd : (es.toList.map (·.born)).Nodup) {a b : MapEntry} (ha : a ∈ es.toList) (hb : b ∈ es.toList) (h : a.born = b.born) : a = b := map_inj_nodup _ _ hnd a ha b hb h

/-- What stands at each entry of an object's map. -/
theorem obj_ent {w : World} {S : Nat → Prop} {es : Array MapEntry} {ks : List ByteArray} {vs : List J} (hnd : (es.toList.map (·.key)).Nodup) (hp : (es.toList.map (·.key)).Perm (ks.map Value.string)) (ha : AVals w S es ks vs) :
    ∀ e ∈ es.toList, ∃ k ∈ ks, e.key = .string k ∧ ARep w S (getK ks vs k) e.val ∧ getK ks vs k ∈ vs := fun e he => by
  have hl := AVals.len ks vs ha
  obtain ⟨k, hk, hek⟩ := List.mem_map.1 (hp.mem_iff.1 (List.mem_map.2 ⟨e, he, rfl⟩))
  obtain ⟨i, hi, rfl⟩ := List.getElem_of_mem hk
  obtain ⟨e', he', hk', hr⟩ := AVals.at2 ks vs ha i hi (by omega)
  have hee := key_inj hnd he he' (hek.symm.trans hk'.symm)
  subst hee
  have hg := getK_at ks vs (nodup_str (hp.nodup_iff.1 hnd)) i hi (by omega)
  exact ⟨_, hk, hk', hg ▸ hr, hg ▸ List.getElem_mem _⟩

theorem AVals.of {w : World} {S : Nat → Prop} {es : Array MapEntry} : ∀ (ks : List ByteArray) (vs : List J), ks.length = vs.length → ks.Nodup → (∀ k ∈ ks, ∃ e ∈ es.toList, e.key = .string k ∧ ARep w S (getK ks vs k) e.val) → AVals w S es ks vs
  | [], [], _, _, _ => rfl
  | [], _ :: _, h, _, _ => by simp at h
  | _ :: _, [], h, _, _ => by simp at h
  | k :: ks, v :: vs, h, hn, ha => by
    have hn' := List.nodup_cons.1 hn
    refine ⟨k, ks, rfl, ?_, AVals.of ks vs (by simpa using h) hn'.2 fun k' hk' => ?_⟩
    · have := ha k List.mem_cons_self
      simpa [getK] using this
    · have := ha k' (List.mem_cons_of_mem _ hk')
      have hne : k ≠ k' := fun e => hn'.1 (e ▸ hk')
      simpa [getK, if_neg hne] using this

theorem obj_mk {w : World} {S : Nat → Prop} {r : Nat} {es : Array MapEntry} {clk : Nat} {ks : List ByteArray} {vs : List J} (hb : w.heap[r]? = some (.map es clk)) (hst : MapKept.Stamped es clk) (hS : S r) (hl : ks.length = vs.length) (hri : rises ks) (hsz : ∀ k ∈ ks, k.size ≤ mostLen)
    (h1 : ∀ e ∈ es.toList, ∃ k ∈ ks, e.key = .string k) (h2 : ∀ k ∈ ks, ∃ e ∈ es.toList, e.key = .string k ∧ ARep w S (getK ks vs k) e.val) : ARep w S (.obj ks vs) (.iface 83 (.map (some r))) := by
  refine ⟨r, es, clk, rfl, hS, hb, hst, ?_, hsz, AVals.of ks vs hl (rises_nodup hri) h2⟩
  refine (List.perm_ext_iff_of_nodup hst.2.2 (str_nodup (rises_nodup hri))).2 fun v => ?_
  constructor
  · intro hv
    obtain ⟨e, he, rfl⟩ := List.mem_map.1 hv
    obtain ⟨k, hk, hek⟩ := h1 e he
    exact List.mem_map.2 ⟨k, hk, hek.symm⟩
  · intro hv
    obtain ⟨k, hk, rfl⟩ := List.mem_map.1 hv
    obtain ⟨e, he, hek, _⟩ := h2 k hk
    exact List.mem_map.2 ⟨e, he, hek⟩

/-- The blocks that came before a place, none of them frozen. -/
def Old (N : Nat) (w : World) : Nat → Prop := fun b => b < N ∧ b < w.heap.size ∧ ∀ j, w.frozen? ⟨b, j, none⟩ = false
def Lt (N : Nat) : Nat → Prop := fun b => b < N

theorem Old.keep {N : Nat} {w w' : World} (h : ∀ b, b < N → w'.heap[b]? = w.heap[b]?) {b : Nat} (hb : Old N w b) : Old N w' b := by
  refine ⟨hb.1, ?_, fun j => (World.frozen?_of_block (h b hb.1)).trans (hb.2.2 j)⟩
  have := h b hb.1
  rw [Array.getElem?_eq_getElem hb.2.1] at this
  exact (Array.getElem?_eq_some_iff.1 this).1
theorem ARep.old {N : Nat} {w w' : World} {x : J} {g : Value} (hr : ARep w (Old N w) x g) (h : ∀ b, b < N → w'.heap[b]? = w.heap[b]?) : ARep w' (Old N w') x g :=
  ARep.keep (fun b hb => h b hb.1) (fun b hb => Old.keep h hb) _ _ hr
theorem ARep.oldAll {N : Nat} {w : World} {x : J} {g : Value} (hr : ARep w (Old N w) x g) : ARep w (Old w.heap.size w) x g := hr.mono fun b hb => ⟨hb.2.1, hb.2⟩

structure MapHas (w : World) (r : Nat) (es : Array MapEntry) (clk : Nat) (ks : List ByteArray) : Prop where
  heap : w.heap[r]? = some (.map es clk)
  st : MapKept.Stamped es clk
  perm : (es.toList.map (·.key)).Perm (ks.map Value.string)
  sz : ∀ k ∈ ks, k.size ≤ mostLen

/-- What stands for a value of any of which one key of an object is marked; all that is new lies behind N and ahead of the last number. -/
inductive Hol (w : World) (N : Nat) : Nat → J → Value → Prop
  | none {y : J} {g : Value} (h : ARep w (Old N w) y g) : Hol w N N y g
  | key {r : Nat} {es : Array MapEntry} {clk : Nat} {ks : List ByteArray} {vs : List J} {s : ByteArray} (e0 : MapEntry) (hN : N ≤ r) (hm : MapHas w r es clk ks) (hl : ks.length = vs.length) (hr : rises ks) (he : e0 ∈ es.toList) (hk : e0.key = .string s) (hv : e0.val = .iface 141 (.agg #[]))
      (ho : ∀ e ∈ es.toList, e.key ≠ .string s → ∃ k, e.key = .string k ∧ ARep w (Old N w) (getK ks vs k) e.val) : Hol w N (r + 1) (.obj (delK ks vs s).1 (delK ks vs s).2) (.iface 83 (.map (some r)))
  | sub {M r : Nat} {es : Array MapEntry} {clk : Nat} {ks : List ByteArray} {vs : List J} {s : ByteArray} {u : J} (e0 : MapEntry) (hN : N ≤ M) (hM : M ≤ r) (hm : MapHas w r es clk ks) (hl : ks.length = vs.length) (hr : rises ks) (he : e0 ∈ es.toList) (hk : e0.key = .string s) (hh : Hol w N M u e0.val)
      (ho : ∀ e ∈ es.toList, e.key ≠ .string s → ∃ k, e.key = .string k ∧ ARep w (Old N w) (getK ks vs k) e.val) : Hol w N (r + 1) (.obj (putK ks vs s u).1 (putK ks vs s u).2) (.iface 83 (.map (some r)))
  | arr {M b c i : Nat} {cs : Array Value} {l : List J} {u : J} {gi : Value} (hN : N ≤ M) (hM : M ≤ b) (hb : w.heap[b]? = some (.cells cs 20)) (hc : l.length ≤ c ∧ c ≤ capMost) (hi : i < l.length) (hg : cs[i]? = some gi) (hh : Hol w N M u gi)
      (ho : ∀ j (hj : j < l.length), j ≠ i → ∃ g, cs[j]? = some g ∧ ARep w (Old N w) l[j] g) : Hol w N (b + 1) (.arr (l.set i u)) (.iface 80 (.slice (some ⟨b, 0, none⟩) l.length c))

theorem Hol.le {w : World} {N M : Nat} {y : J} {g : Value} (h : Hol w N M y g) : N ≤ M := by
  cases h with
  | none _ => exact Nat.le_refl _
  | key _ hN => omega
  | sub _ hN hM => omega
  | arr hN hM => omega

theorem Hol.keep {w w' : World} {N M : Nat} {y : J} {g : Value} (h : Hol w N M y g) : (∀ b, b < M → w'.heap[b]? = w.heap[b]?) → Hol w' N M y g := by
  induction h with
  | none h => exact fun hw => .none (h.old hw)
  | key e0 hN hm hl hr he hk hv ho =>
    intro hw
    refine .key e0 hN ⟨(hw _ (Nat.lt_succ_self _)).trans hm.heap, hm.st, hm.perm, hm.sz⟩ hl hr he hk hv fun e he hne => ?_
    obtain ⟨k, h1, h2⟩ := ho e he hne
    exact ⟨k, h1, h2.old fun b hb => hw b (by omega)⟩
  | sub e0 hN hM hm hl hr he hk hh ho ih =>
    intro hw
    refine .sub e0 hN hM ⟨(hw _ (Nat.lt_succ_self _)).trans hm.heap, hm.st, hm.perm, hm.sz⟩ hl hr he hk (ih fun b hb => hw b (by omega)) fun e he hne => ?_
    obtain ⟨k, h1, h2⟩ := ho e he hne
    exact ⟨k, h1, h2.old fun b hb => hw b (by omega)⟩
  | arr hN hM hb hc hi hg hh ho ih =>
    intro hw
    refine .arr hN hM ((hw _ (Nat.lt_succ_self _)).trans hb) hc hi hg (ih fun b hb => hw b (by omega)) fun j hj hne => ?_
    obtain ⟨g, h1, h2⟩ := ho j hj hne
    exact ⟨g, h1, h2.old fun b hb => hw b (by omega)⟩

theorem Hol.notHole {w : World} {N M : Nat} {y : J} {g : Value} (h : Hol w N M y g) : NotHole g := by
  cases h with
  | none h => exact h.notHole
  | key _ _ _ _ _ _ _ _ _ => exact ⟨fun w => by kernel_rfl, fun a b w => by kernel_rfl, fun w => by kernel_rfl, fun a b w => by kernel_rfl⟩
  | sub _ _ _ _ _ _ _ _ _ _ => exact ⟨fun w => by kernel_rfl, fun a b w => by kernel_rfl, fun w => by kernel_rfl, fun a b w => by kernel_rfl⟩
  | arr _ _ _ _ _ _ _ _ => exact ⟨fun w => by kernel_rfl, fun a b w => by kernel_rfl, fun w => by kernel_rfl, fun a b w => by kernel_rfl⟩
theorem Hol.shape {w : World} {N M : Nat} {y : J} {g : Value} (h : Hol w N M y g) : g = .nilIface ∨ ∃ t v, g = .iface t v := by
  cases h with
  | none h => exact h.shape
  | key _ _ _ _ _ _ _ _ _ => exact .inr ⟨_, _, rfl⟩
  | sub _ _ _ _ _ _ _ _ _ _ => exact .inr ⟨_, _, rfl⟩
  | arr _ _ _ _ _ _ _ _ => exact .inr ⟨_, _, rfl⟩
end Go.Gj

/-
  deleteEmpty, where nothing is to be struck out.
-/
namespace Go.Gj
set_option linter.unusedSimpArgs false
set_option linter.unusedVariables false
set_option linter.unnecessarySimpa false
open Go Go.RowKit Go.Proofs

/-- deleteEmpty gives the value back, and what was there stands. -/
def DelId (x : J) : Prop := ∀ (w : World) (g : Value), ARep w (Old w.heap.size w) x g → Calls Tryz.prog 187 #[g] w fun e w' => e = .returned g ∧ Below w.heap.size w w'

set_option maxHeartbeats 1000000 in
set_option maxRecDepth 100000 in
theorem del_null : DelId .null := fun w g h => by
  obtain rfl : g = .nilIface := h
  go_enter Tryz.func187, Tryz.ntmps187
  go_wp2_with fail
  exact bodyPost_ret (v := .nilIface) (by simp [results, Tryz.results187, go_sem]) rfl ⟨rfl, Below.refl _ _⟩
set_option maxHeartbeats 1000000 in
set_option maxRecDepth 100000 in
theorem del_bool (y : Bool) : DelId (.bool y) := fun w g h => by
  obtain rfl : g = .iface 4 (.bool y) := h
  go_enter Tryz.func187, Tryz.ntmps187
  go_wp2_with fail
  exact bodyPost_ret (v := .iface 4 (.bool y)) (by simp [results, Tryz.results187, go_sem]) rfl ⟨rfl, Below.refl _ _⟩
set_option maxHeartbeats 1000000 in
set_option maxRecDepth 100000 in
theorem del_num (h' : Int) : DelId (.num h') := fun w g h => by
  rcases h with ⟨_, _, _, rfl⟩ | ⟨_, _, rfl⟩
  · go_enter Tryz.func187, Tryz.ntmps187
    go_wp2_with fail
    exact bodyPost_ret (v := .iface 3 (.int .i64 (h' / 2))) (by simp [results, Tryz.results187, go_sem]) rfl ⟨rfl, Below.refl _ _⟩
  · go_enter Tryz.func187, Tryz.ntmps187
    go_wp2_with fail
    exact bodyPost_ret (v := .iface 79 (.float .f64 (fl h' (-1)))) (by simp [results, Tryz.results187, go_sem]) rfl ⟨rfl, Below.refl _ _⟩
set_option maxHeartbeats 1000000 in
set_option maxRecDepth 100000 in
theorem del_str (s : ByteArray) : DelId (.str s) := fun w g h => by
  obtain ⟨rfl, _⟩ := h
  go_enter Tryz.func187, Tryz.ntmps187
  go_wp2_with fail
  exact bodyPost_ret (v := .iface 9 (.string s)) (by simp [results, Tryz.results187, go_sem]) rfl ⟨rfl, Below.refl _ _⟩

theorem upd_same {w : World} {r : Nat} {es : Array MapEntry} {clk : Nat} {ks : List ByteArray} (hm : MapHas w r es clk ks) {e : MapEntry} (he : e ∈ es.toList) : (Instr.mapUpdate 83 (.map (some r)) e.key e.val).run Tryz.prog w = .ok () w := by
  have hk : ∀ x ∈ es.toList, ∃ k, x.key = .string k := fun x hx => by
    obtain ⟨k, _, h⟩ := List.mem_map.1 (hm.perm.mem_iff.1 (List.mem_map.2 ⟨x, hx, rfl⟩))
    exact ⟨k, h.symm⟩
  obtain ⟨s, hs⟩ := hk e he
  rw [hs]
  exact run_update_same s e hm.heap hk hm.st.2.2 he hs

theorem del_arr (l : List J) (ih : ∀ y ∈ l, DelId y) : DelId (.arr l) := fun w g h => by
  obtain ⟨b, o, c, rfl, hc, hb, hcs⟩ := h
  refine (del_arr_walk b o l.length c hc.1 hc.2 w (fun _ w2 => Below w.heap.size w w2) (Below.refl _ _) fun k w2 hk hbel => ?_).mono fun e w' h => h
  obtain ⟨g, hg, hr⟩ := ACells.at l o k hk hcs
  have hr2 := ARep.oldAll (hr.old hbel.block)
  refine ⟨g, (hbel.cell hb.1).trans hg, hr.notHole, hr.shape, (ih _ (List.getElem_mem hk) w2 g hr2).mono fun e w' h => ?_⟩
  have hb2 := hbel.trans (h.2.mono hbel.size)
  exact ⟨h.1, (hb2.cell hb.1).trans hg, (hb2.frozen (p := ⟨b, o + k, none⟩) hb.1).trans (hb.2.2 _), hb2⟩

theorem below_up {n : Nat} {w w' : World} (h : Below w.heap.size w w') : Up n w w' := ⟨h.size, fun b _ hb => h.block b hb⟩

theorem del_obj (ks : List ByteArray) (vs : List J) (ih : ∀ y ∈ vs, DelId y) : DelId (.obj ks vs) := fun w g h => by
  obtain ⟨r, es, clk, rfl, hr, hh, hst, hp, hsz, ha⟩ := h
  have hent := obj_ent hst.2.2 hp ha
  refine (del_obj_walk r es clk w (fun _ w2 => Below w.heap.size w w2) hh hst (Below.refl _ _) (fun _ _ _ h1 _ h2 => h1.trans h2) (fun seen w2 hbel => ⟨es, (hbel.block r hr.1).trans hh, List.Sublist.refl _, fun e he _ => he⟩) fun seen w2 e he hs hsz2 hbel => .inr ?_).mono fun e w' h => ⟨h.1, h.2.2.elim fun _ h => h.2⟩
  obtain ⟨k, hk, hek, hre, hmem⟩ := hent e he
  have hr2 := ARep.oldAll (hre.old hbel.block)
  refine ⟨hre.notHole, (ih _ hmem w2 e.val hr2).mono fun x w' h => ?_⟩
  have hb2 := hbel.trans (h.2.mono hbel.size)
  exact ⟨h.1, upd_same ⟨(hb2.block r hr.1).trans hh, hst, hp, hsz⟩ he, below_up h.2, hb2⟩

/-- deleteEmpty where nothing is marked. -/
theorem del_same (x : J) : DelId x := by
  match x with
  | .null => exact del_null
  | .bool b => exact del_bool b
  | .num h => exact del_num h
  | .str s => exact del_str s
  | .arr l => exact del_arr l fun y hy => del_same y
  | .obj ks vs => exact del_obj ks vs fun y hy => del_same y
termination_by SizeOf.sizeOf x
decreasing_by
  · have := List.sizeOf_lt_of_mem hy; simp; omega
  · have := List.sizeOf_lt_of_mem hy; simp; omega

/-- Only what lies between two places has turned. -/
structure Mid (N M : Nat) (w w' : World) : Prop where
  os : w'.os = w.os
  tape : w'.tape = w.tape
  output : w'.output = w.output
  size : w.heap.size ≤ w'.heap.size
  block : ∀ b, b < w.heap.size → (b < N ∨ M ≤ b) → w'.heap[b]? = w.heap[b]?

theorem Mid.refl (N M : Nat) (w : World) : Mid N M w w := ⟨rfl, rfl, rfl, Nat.le_refl _, fun _ _ _ => rfl⟩
theorem Mid.trans {N M : Nat} {a b c : World} (h : Mid N M a b) (k : Mid N M b c) : Mid N M a c :=
  ⟨k.os.trans h.os, k.tape.trans h.tape, k.output.trans h.output, Nat.le_trans h.size k.size, fun i hi hm => (k.block i (Nat.lt_of_lt_of_le hi h.size) hm).trans (h.block i hi hm)⟩
theorem Mid.more {N M M' : Nat} {a b : World} (h : Mid N M a b) (hM : M ≤ M') : Mid N M' a b := ⟨h.os, h.tape, h.output, h.size, fun i hi hm => h.block i hi (by omega)⟩
theorem Mid.of {N M B : Nat} {a b : World} (h : Below B a b) (hB : a.heap.size ≤ B) : Mid N M a b := ⟨h.os, h.tape, h.output, h.size, fun i hi _ => h.block i (by omega)⟩
theorem Mid.below {N M : Nat} {a b : World} (h : Mid N M a b) (hN : N ≤ a.heap.size) : Below N a b := ⟨h.os, h.tape, h.output, h.size, fun i hi => h.block i (by omega) (.inl hi)⟩
end Go.Gj

/-
  deleteEmpty where one key is marked.
-/
namespace Go.Gj
set_option linter.unusedSimpArgs false
set_option linter.unusedVariables false
set_option linter.unnecessarySimpa false
open Go Go.RowKit Go.Proofs

theorem MapHas.mem {w : World} {r : Nat} {es : Array MapEntry} {clk : Nat} {ks : List ByteArray} (h : MapHas w r es clk ks) {e : MapEntry} (he : e ∈ es.toList) {s : ByteArray} (hs : e.key = .string s) : s ∈ ks := by
  obtain ⟨k, hk, hek⟩ := List.mem_map.1 (h.perm.mem_iff.1 (List.mem_map.2 ⟨e, he, rfl⟩))
  rw [hs] at hek
  cases hek
  exact hk
theorem MapHas.ent {w : World} {r : Nat} {es : Array MapEntry} {clk : Nat} {ks : List ByteArray} (h : MapHas w r es clk ks) {k : ByteArray} (hk : k ∈ ks) : ∃ e ∈ es.toList, e.key = .string k := by
  obtain ⟨e, he, hek⟩ := List.mem_map.1 (h.perm.mem_iff.2 (List.mem_map.2 ⟨k, hk, rfl⟩))
  exact ⟨e, he, hek⟩
theorem MapHas.str {w : World} {r : Nat} {es : Array MapEntry} {clk : Nat} {ks : List ByteArray} (h : MapHas w r es clk ks) : ∀ x ∈ es.toList, ∃ k, x.key = .string k := fun x hx => by
  obtain ⟨k, _, h⟩ := List.mem_map.1 (h.perm.mem_iff.1 (List.mem_map.2 ⟨x, hx, rfl⟩))
  exact ⟨k, h.symm⟩
theorem MapHas.lt {w : World} {r : Nat} {es : Array MapEntry} {clk : Nat} {ks : List ByteArray} (h : MapHas w r es clk ks) : r < w.heap.size := (Array.getElem?_eq_some_iff.1 h.heap).1

/-- How far a spine's element has come. -/
structure HI (N M : Nat) (w0 : World) (u : J) (g : Value) (done : Prop) (w2 : World) : Prop where
  mid : Mid N M w0 w2
  yes : done → ARep w2 (Lt M) u g
  no : ¬ done → Below w0.heap.size w0 w2

theorem HI.frame {N M : Nat} {w0 : World} {u : J} {g : Value} {done : Prop} {w2 w3 : World} (h : HI N M w0 u g done w2) (hM : M ≤ w0.heap.size) (hb : Below w0.heap.size w2 w3) : HI N M w0 u g done w3 :=
  ⟨⟨hb.os.trans h.mid.os, hb.tape.trans h.mid.tape, hb.output.trans h.mid.output, Nat.le_trans h.mid.size hb.size, fun b hb' hm => (hb.block b hb').trans (h.mid.block b hb' hm)⟩,
    fun hd => (h.yes hd).below hb (fun b hb => Nat.lt_of_lt_of_le hb hM), fun hd => (h.no hd).trans hb⟩

theorem push_self (seen : Array Nat) (b : Nat) : (seen.push b).contains b = true := by simp
theorem push_ne {seen : Array Nat} {b c : Nat} (h : b ≠ c) : (seen.push b).contains c = true ↔ seen.contains c = true := by
  rw [contains_push]; simp [Ne.symm h]

theorem erase_facts {es : Array MapEntry} {j : Nat} {e0 : MapEntry} (hj : es[j]? = some e0) (hnd : (es.toList.map (·.key)).Nodup) :
    (es.eraseIdxIfInBounds j).toList.Sublist es.toList ∧ (∀ e ∈ es.toList, e ≠ e0 → e ∈ (es.eraseIdxIfInBounds j).toList) ∧ e0 ∉ (es.eraseIdxIfInBounds j).toList := by
  have hjs : j < es.size := (Array.getElem?_eq_some_iff.1 hj).1
  have hsub : (es.eraseIdxIfInBounds j).toList = es.toList.eraseIdx j := by
    unfold Array.eraseIdxIfInBounds
    rw [dif_pos hjs]
    simp
  have hjl : es.toList[j]? = some e0 := by simpa using hj
  rw [hsub]
  refine ⟨List.eraseIdx_sublist _ _, fun e he hne => ?_, fun hm => ?_⟩
  · obtain ⟨i, hi, rfl⟩ := List.getElem_of_mem he
    refine List.mem_eraseIdx_iff_getElem.2 ⟨i, hi, fun e => hne ?_, rfl⟩
    subst e
    rw [List.getElem?_eq_getElem hi] at hjl
    exact Option.some.inj hjl
  · obtain ⟨i, hi, hij, hie⟩ := List.mem_eraseIdx_iff_getElem.1 hm
    have hn : es.toList.Nodup := List.Pairwise.of_map (·.key) (fun a b h e => h (by rw [e])) hnd
    have hjl' := (List.getElem?_eq_some_iff.1 hjl)
    obtain ⟨hj1, hj2⟩ := hjl'
    have hpw := List.pairwise_iff_getElem.1 hn
    rcases Nat.lt_or_gt_of_ne hij with h | h
    · exact hpw i j hi hj1 h (hie.trans hj2.symm)
    · exact hpw j i hj1 hi h (hj2.trans hie.symm)

theorem del_key {w : World} {N r : Nat} {es : Array MapEntry} {clk : Nat} {ks : List ByteArray} {vs : List J} {s : ByteArray} (e0 : MapEntry) (hN : N ≤ r) (hm : MapHas w r es clk ks) (hl : ks.length = vs.length) (hr : rises ks) (he0 : e0 ∈ es.toList) (hk0 : e0.key = .string s) (hv0 : e0.val = .iface 141 (.agg #[]))
      (ho : ∀ e ∈ es.toList, e.key ≠ .string s → ∃ k, e.key = .string k ∧ ARep w (Old N w) (getK ks vs k) e.val) :
    Calls Tryz.prog 187 #[.iface 83 (.map (some r))] w fun e w' => e = .returned (.iface 83 (.map (some r))) ∧ Mid N (r + 1) w w' ∧ ARep w' (Lt (r + 1)) (.obj (delK ks vs s).1 (delK ks vs s).2) (.iface 83 (.map (some r))) := by
  have hlt := hm.lt
  refine (del_obj_walk r es clk w (fun seen w2 => Mid N (r + 1) w w2 ∧ ((seen.contains e0.born = true ∧ ∃ j, es[j]? = some e0 ∧ w2.heap[r]? = some (.map (es.eraseIdxIfInBounds j) clk)) ∨ (seen.contains e0.born = false ∧ w2.heap[r]? = some (.map es clk)))) hm.heap hm.st ⟨Mid.refl _ _ _, .inr ⟨by simp, hm.heap⟩⟩ ?_ ?_ ?_).mono fun e w' h => ?_
  · rintro seen w2 w3 ⟨h1, h2⟩ hsz hb
    refine ⟨⟨hb.os.trans h1.os, hb.tape.trans h1.tape, hb.output.trans h1.output, Nat.le_trans h1.size hb.size, fun b hb' hm => (hb.block b hb').trans (h1.block b hb' hm)⟩, ?_⟩
    rw [hb.block r hlt]
    exact h2
  · rintro seen w2 ⟨h1, ⟨hd, j, hj, hh⟩ | ⟨hd, hh⟩⟩
    · obtain ⟨q1, q2, _⟩ := erase_facts hj hm.st.2.2
      refine ⟨_, hh, q1, fun e he hs => q2 e he fun e1 => ?_⟩
      subst e1; rw [hs] at hd; cases hd
    · exact ⟨es, hh, List.Sublist.refl _, fun e he _ => he⟩
  · rintro seen w2 e he hs hsz ⟨h1, h2⟩
    by_cases hee : e = e0
    · subst hee
      left
      rcases h2 with ⟨hd, _⟩ | ⟨_, hh⟩
      · rw [hs] at hd; cases hd
      · refine ⟨hv0, ?_⟩
        obtain ⟨j, hj, hrun⟩ := run_delete (w := w2) s e hh hm.str hm.st.2.2 he hk0 0
        have hrun' : ∀ ty, (Builtin.delete_ #[83, 9] ty #[.map (some r), e.key]).run Tryz.prog w2 = .ok (.tuple #[]) (setMap w2 r (es.eraseIdxIfInBounds j) clk) := fun ty => by rw [hk0]; exact hrun
        have hlt2 : r < w2.heap.size := Nat.lt_of_lt_of_le hlt h1.size
        refine ⟨_, hrun', ⟨by rw [setMap_size]; exact Nat.le_refl _, fun b hb _ => setMap_other _ _ _ _ _ (by omega)⟩, ⟨h1.os, h1.tape, h1.output, by rw [setMap_size]; exact h1.size, fun b hb hm' => (setMap_other _ _ _ _ _ (by omega)).trans (h1.block b hb hm')⟩, .inl ⟨push_self _ _, j, hj, setMap_same _ _ _ _ hlt2⟩⟩
    · right
      have hkn : e.key ≠ .string s := fun h => hee (key_inj hm.st.2.2 he he0 (h.trans hk0.symm))
      have hbn : e.born ≠ e0.born := fun h => hee (born_inj' hm.st.2.1 he he0 h)
      obtain ⟨k, hek, hre⟩ := ho e he hkn
      have hr2 := ARep.oldAll (hre.old fun b hb => h1.block b (by omega) (.inl hb))
      refine ⟨hre.notHole, (del_same _ w2 e.val hr2).mono fun x w3 h => ?_⟩
      have hlt2 : r < w2.heap.size := Nat.lt_of_lt_of_le hlt h1.size
      have hb3 : w3.heap[r]? = w2.heap[r]? := h.2.block r hlt2
      refine ⟨h.1, ?_, below_up h.2, h1.trans (Mid.of h.2 (Nat.le_refl _)), ?_⟩
      · rcases h2 with ⟨hd, j, hj, hh⟩ | ⟨hd, hh⟩
        · obtain ⟨q1, q2, _⟩ := erase_facts hj hm.st.2.2
          rw [hek]
          exact run_update_same k e (hb3.trans hh) (fun x hx => hm.str x (q1.subset hx)) ((q1.map _).nodup hm.st.2.2) (q2 e he hee) hek
        · exact upd_same ⟨hb3.trans hh, hm.st, hm.perm, hm.sz⟩ he
      · rcases h2 with ⟨hd, j, hj, hh⟩ | ⟨hd, hh⟩
        · exact .inl ⟨(push_ne hbn).2 hd, j, hj, hb3.trans hh⟩
        · refine .inr ⟨?_, hb3.trans hh⟩
          cases hc : (seen.push e.born).contains e0.born with
          | false => rfl
          | true => rw [(push_ne hbn).1 hc] at hd; cases hd
  · obtain ⟨h1, _, seen, hall, h2, h3⟩ := h
    refine ⟨h1, h2, ?_⟩
    rcases h3 with ⟨_, j, hj, hh⟩ | ⟨hd, _⟩
    · obtain ⟨q1, q2, q3⟩ := erase_facts hj hm.st.2.2
      have hst : MapKept.Stamped (es.eraseIdxIfInBounds j) clk := ⟨fun x hx => hm.st.1 x (q1.subset hx), (q1.map _).nodup hm.st.2.1, (q1.map _).nodup hm.st.2.2⟩
      refine obj_mk hh hst (Nat.lt_succ_self _) (delK_length ks vs s hl) (delK_rises ks vs s hr) (fun k hk => hm.sz k (delK_sub ks vs s k hk)) (fun e he => ?_) fun k hk => ?_
      · obtain ⟨k, hek⟩ := hm.str e (q1.subset he)
        refine ⟨k, (delK_keys ks vs s hl hr k).2 ⟨hm.mem (q1.subset he) hek, fun e1 => ?_⟩, hek⟩
        subst e1
        exact q3 (key_inj hm.st.2.2 (q1.subset he) he0 (hek.trans hk0.symm) ▸ he)
      · obtain ⟨hk1, hk2⟩ := (delK_keys ks vs s hl hr k).1 hk
        obtain ⟨e, he, hek⟩ := hm.ent hk1
        have hkn : e.key ≠ .string s := fun h => hk2 (by rw [hek] at h; simpa using h)
        obtain ⟨k', hek', hre⟩ := ho e he hkn
        obtain rfl : k' = k := by rw [hek] at hek'; simpa using hek'.symm
        refine ⟨e, q2 e he (fun e1 => hkn (e1 ▸ hk0)), hek, ?_⟩
        rw [delK_get ks vs s k' hl hk2]
        exact (hre.old fun b hb => h2.block b (by omega) (.inl hb)).mono fun b hb => by have := hb.1; unfold Lt; omega
    · rw [hall e0 he0] at hd; cases hd

theorem del_sub {w : World} {N M r : Nat} {es : Array MapEntry} {clk : Nat} {ks : List ByteArray} {vs : List J} {s : ByteArray} {u : J} (e0 : MapEntry) (hN : N ≤ M) (hM : M ≤ r) (hm : MapHas w r es clk ks) (hl : ks.length = vs.length) (hr : rises ks) (he0 : e0 ∈ es.toList) (hk0 : e0.key = .string s) (hnh : NotHole e0.val)
      (ih : ∀ w0 : World, (∀ b, b < M → w0.heap[b]? = w.heap[b]?) → Calls Tryz.prog 187 #[e0.val] w0 fun e w' => e = .returned e0.val ∧ Mid N M w0 w' ∧ ARep w' (Lt M) u e0.val)
      (ho : ∀ e ∈ es.toList, e.key ≠ .string s → ∃ k, e.key = .string k ∧ ARep w (Old N w) (getK ks vs k) e.val) :
    Calls Tryz.prog 187 #[.iface 83 (.map (some r))] w fun e w' => e = .returned (.iface 83 (.map (some r))) ∧ Mid N (r + 1) w w' ∧ ARep w' (Lt (r + 1)) (.obj (putK ks vs s u).1 (putK ks vs s u).2) (.iface 83 (.map (some r))) := by
  have hlt := hm.lt
  have hcur : ∀ {done : Prop} {w2 : World}, HI N M w u e0.val done w2 → w2.heap[r]? = some (.map es clk) := fun h => (h.mid.block r hlt (.inr hM)).trans hm.heap
  refine (del_obj_walk r es clk w (fun seen w2 => HI N M w u e0.val (seen.contains e0.born = true) w2) hm.heap hm.st ⟨Mid.refl _ _ _, fun h => by simp at h, fun _ => Below.refl _ _⟩ (fun seen w2 w3 h _ hb => h.frame (by omega) hb) (fun seen w2 h => ⟨es, hcur h, List.Sublist.refl _, fun e he _ => he⟩) ?_).mono fun e w' h => ?_
  · intro seen w2 e he hs hsz hI
    right
    have hlt2 : r < w2.heap.size := Nat.lt_of_lt_of_le hlt hI.mid.size
    by_cases hee : e = e0
    · subst hee
      have hb := hI.no (by rw [hs]; exact Bool.false_ne_true)
      refine ⟨hnh, (ih w2 fun b hb' => hb.block b (by omega)).mono fun x w3 h => ?_⟩
      obtain ⟨q1, q2, q3⟩ := h
      have hmid := hI.mid.trans q2
      exact ⟨q1, upd_same ⟨(hmid.block r hlt (.inr hM)).trans hm.heap, hm.st, hm.perm, hm.sz⟩ he, ⟨q2.size, fun b hb1 hb2 => q2.block b hb2 (.inr (by omega))⟩, hmid, fun _ => q3, fun h => absurd (push_self _ _) h⟩
    · have hkn : e.key ≠ .string s := fun h => hee (key_inj hm.st.2.2 he he0 (h.trans hk0.symm))
      have hbn : e.born ≠ e0.born := fun h => hee (born_inj' hm.st.2.1 he he0 h)
      obtain ⟨k, hek, hre⟩ := ho e he hkn
      have hr2 := ARep.oldAll (hre.old fun b hb => hI.mid.block b (by omega) (.inl hb))
      refine ⟨hre.notHole, (del_same _ w2 e.val hr2).mono fun x w3 h => ?_⟩
      have hI3 := hI.frame (by omega) (h.2.mono hI.mid.size)
      exact ⟨h.1, upd_same ⟨hcur hI3, hm.st, hm.perm, hm.sz⟩ he, below_up h.2, hI3.mid, fun hd => hI3.yes ((push_ne hbn).1 hd), fun hd => hI3.no fun h => hd ((push_ne hbn).2 h)⟩
  · obtain ⟨h1, _, seen, hall, hI⟩ := h
    refine ⟨h1, hI.mid.more (by omega), ?_⟩
    have hu := hI.yes (hall e0 he0)
    refine obj_mk (hcur hI) hm.st (Nat.lt_succ_self _) (putK_length ks vs s u hl).1 (putK_rises ks vs s u hl hr) (fun k hk => ?_) (fun e he => ?_) fun k hk => ?_
    · rcases (putK_keys ks vs s u hl k).1 hk with h | rfl
      · exact hm.sz k h
      · exact hm.sz k (hm.mem he0 hk0)
    · obtain ⟨k, hek⟩ := hm.str e he
      exact ⟨k, (putK_keys ks vs s u hl k).2 (.inl (hm.mem he hek)), hek⟩
    · by_cases hks : k = s
      · subst hks
        refine ⟨e0, he0, hk0, ?_⟩
        rw [getK_putK]
        exact hu.mono fun b hb => by unfold Lt at *; omega
      · have hkm := ((putK_keys ks vs s u hl k).1 hk).resolve_right hks
        obtain ⟨e, he, hek⟩ := hm.ent hkm
        have hkn : e.key ≠ .string s := fun h => hks (by rw [hek] at h; simpa using h)
        obtain ⟨k', hek', hre⟩ := ho e he hkn
        obtain rfl : k' = k := by rw [hek] at hek'; simpa using hek'.symm
        refine ⟨e, he, hek, ?_⟩
        rw [getK_putK_ne ks vs s k' u hl hks]
        exact (hre.old fun b hb => hI.mid.block b (by omega) (.inl hb)).mono fun b hb => by have := hb.1; unfold Lt; omega

theorem del_spine {w : World} {N M b c i : Nat} {cs : Array Value} {l : List J} {u : J} {gi : Value} (hN : N ≤ M) (hM : M ≤ b) (hb : w.heap[b]? = some (.cells cs 20)) (hc : l.length ≤ c ∧ c ≤ capMost) (hi : i < l.length) (hg : cs[i]? = some gi) (hnh : NotHole gi) (hsh : gi = .nilIface ∨ ∃ t v, gi = .iface t v)
      (ih : ∀ w0 : World, (∀ b, b < M → w0.heap[b]? = w.heap[b]?) → Calls Tryz.prog 187 #[gi] w0 fun e w' => e = .returned gi ∧ Mid N M w0 w' ∧ ARep w' (Lt M) u gi)
      (ho : ∀ j (hj : j < l.length), j ≠ i → ∃ g, cs[j]? = some g ∧ ARep w (Old N w) l[j] g) :
    Calls Tryz.prog 187 #[.iface 80 (.slice (some ⟨b, 0, none⟩) l.length c)] w fun e w' => e = .returned (.iface 80 (.slice (some ⟨b, 0, none⟩) l.length c)) ∧ Mid N (b + 1) w w' ∧ ARep w' (Lt (b + 1)) (.arr (l.set i u)) (.iface 80 (.slice (some ⟨b, 0, none⟩) l.length c)) := by
  have hlt : b < w.heap.size := (Array.getElem?_eq_some_iff.1 hb).1
  have hcur : ∀ {done : Prop} {w2 : World}, HI N M w u gi done w2 → w2.heap[b]? = some (.cells cs 20) := fun h => (h.mid.block b hlt (.inr hM)).trans hb
  have hcell : ∀ {w2 : World}, w2.heap[b]? = some (.cells cs 20) → ∀ j g, cs[j]? = some g → w2.cell? ⟨b, 0 + j, none⟩ = some g ∧ w2.frozen? ⟨b, 0 + j, none⟩ = false := fun h j g hj => by
    rw [Nat.zero_add]
    exact ⟨by simp [World.cell?, h, hj], by simp [World.frozen?, h]⟩
  refine (del_arr_walk b 0 l.length c hc.1 hc.2 w (fun k w2 => HI N M w u gi (i < k) w2) ⟨Mid.refl _ _ _, fun h => by omega, fun _ => Below.refl _ _⟩ ?_).mono fun e w' h => ?_
  · intro k w2 hk hI
    have hlt2 : b < w2.heap.size := Nat.lt_of_lt_of_le hlt hI.mid.size
    by_cases hki : k = i
    · subst hki
      have hb2 := hI.no (by omega)
      refine ⟨gi, (hcell (hcur hI) k gi hg).1, hnh, hsh, (ih w2 fun b' hb' => hb2.block b' (by omega)).mono fun x w3 h => ?_⟩
      obtain ⟨q1, q2, q3⟩ := h
      have hmid := hI.mid.trans q2
      have hI3 : HI N M w u gi (k < k + 1) w3 := ⟨hmid, fun _ => q3, fun h => absurd (Nat.lt_succ_self _) h⟩
      exact ⟨q1, (hcell (hcur hI3) k gi hg).1, (hcell (hcur hI3) k gi hg).2, hI3⟩
    · obtain ⟨g, hgj, hre⟩ := ho k hk hki
      have hr2 := ARep.oldAll (hre.old fun b' hb' => hI.mid.block b' (by omega) (.inl hb'))
      refine ⟨g, (hcell (hcur hI) k g hgj).1, hre.notHole, hre.shape, (del_same _ w2 g hr2).mono fun x w3 h => ?_⟩
      have hI3 := hI.frame (by omega) (h.2.mono hI.mid.size)
      have hI4 : HI N M w u gi (i < k + 1) w3 := ⟨hI3.mid, fun hd => hI3.yes (by omega), fun hd => hI3.no (by omega)⟩
      exact ⟨h.1, (hcell (hcur hI4) k g hgj).1, (hcell (hcur hI4) k g hgj).2, hI4⟩
  · obtain ⟨h1, hI⟩ := h
    refine ⟨h1, hI.mid.more (by omega), b, 0, c, by rw [List.length_set], by rw [List.length_set]; exact hc, Nat.lt_succ_self _, ACells.of _ 0 fun j hj => ?_⟩
    rw [List.length_set] at hj
    by_cases hji : j = i
    · subst hji
      refine ⟨gi, (hcell (hcur hI) j gi hg).1, ?_⟩
      rw [List.getElem_set_self]
      exact (hI.yes hi).mono fun b' hb' => by unfold Lt at *; omega
    · obtain ⟨g, hgj, hre⟩ := ho j hj hji
      refine ⟨g, (hcell (hcur hI) j g hgj).1, ?_⟩
      rw [List.getElem_set_ne (Ne.symm hji)]
      exact (hre.old fun b' hb' => hI.mid.block b' (by omega) (.inl hb')).mono fun b' hb' => by have := hb'.1; unfold Lt; omega

/-- deleteEmpty of what is marked at one key at most. -/
theorem del_hol {w : World} {N M : Nat} {y : J} {g : Value} (h : Hol w N M y g) : ∀ w0 : World, (∀ b, b < M → w0.heap[b]? = w.heap[b]?) → Calls Tryz.prog 187 #[g] w0 fun e w' => e = .returned g ∧ Mid N M w0 w' ∧ ARep w' (Lt M) y g := by
  induction h with
  | none h =>
    intro w0 hw
    refine (del_same _ w0 _ (ARep.oldAll (h.old hw))).mono fun e w' q => ⟨q.1, Mid.of q.2 (Nat.le_refl _), ?_⟩
    exact ((h.old hw).below q.2 fun b hb => hb.2.1).mono fun b hb => hb.1
  | key e0 hN hm hl hr he hk hv ho =>
    intro w0 hw
    refine del_key e0 hN ⟨(hw _ (Nat.lt_succ_self _)).trans hm.heap, hm.st, hm.perm, hm.sz⟩ hl hr he hk hv fun e he hne => ?_
    obtain ⟨k, h1, h2⟩ := ho e he hne
    exact ⟨k, h1, h2.old fun b hb => hw b (by omega)⟩
  | sub e0 hN hM hm hl hr he hk hh ho ih =>
    intro w0 hw
    refine del_sub e0 hN hM ⟨(hw _ (Nat.lt_succ_self _)).trans hm.heap, hm.st, hm.perm, hm.sz⟩ hl hr he hk hh.notHole (fun w1 hw1 => ih w1 fun b hb => (hw1 b hb).trans (hw b (by omega))) fun e he hne => ?_
    obtain ⟨k, h1, h2⟩ := ho e he hne
    exact ⟨k, h1, h2.old fun b hb => hw b (by omega)⟩
  | arr hN hM hb hc hi hg hh ho ih =>
    intro w0 hw
    refine del_spine hN hM ((hw _ (Nat.lt_succ_self _)).trans hb) hc hi hg hh.notHole hh.shape (fun w1 hw1 => ih w1 fun b hb => (hw1 b hb).trans (hw b (by omega))) fun j hj hne => ?_
    obtain ⟨g, h1, h2⟩ := ho j hj hne
    exact ⟨g, h1, h2.old fun b hb => hw b (by omega)⟩
#print axioms del_hol
end Go.Gj
