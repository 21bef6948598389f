/-
  A map under a range: an entry set to what it holds; an entry struck out.
-/
import Derived.Test.YtnlndpgbhmkanaaGreatDoorLookL
import Derived.Maps.RangeRun
import Derived.Test.YtnlndpgbhmkanaaGreatDoorWToGo3
import Derived.Test.YtnlndpgbhmkanaaGreatDoorErrL
import Derived.Test.YtnlndpgbhmkanaaGreatDoorWSetO
namespace Go.Gj
set_option linter.unusedSimpArgs false
set_option linter.unusedVariables false
set_option linter.unnecessarySimpa false
open Go Go.RowKit Go.Proofs

theorem setMap_self {w : World} {b : Nat} {es : Array MapEntry} {clk : Nat} (hb : w.heap[b]? = some (.map es clk)) : setMap w b es clk = w := by
  have hlt : b < w.heap.size := (Array.getElem?_eq_some_iff.1 hb).1
  have hv : w.heap[b] = .map es clk := (Array.getElem?_eq_some_iff.1 hb).2
  have e : w.heap.setIfInBounds b (.map es clk) = w.heap := by
    refine Array.ext (by rw [Array.size_setIfInBounds]) fun i h1 h2 => ?_
    rw [Array.getElem_setIfInBounds]
    split
    · rename_i hi; subst hi; exact hv.symm
    · rfl
  unfold setMap
  rw [e]

theorem modify_self {α : Type} (es : Array α) (j : Nat) (f : α → α) (h : ∀ e, es[j]? = some e → f e = e) : es.modify j f = es := by
  refine Array.ext (by rw [Array.size_modify]) fun i h1 h2 => ?_
  rw [Array.getElem_modify]
  split
  · rename_i hj
    subst hj
    exact h _ (Array.getElem?_eq_getElem h2)
  · rfl

/-- A key that is there is set to what stands there: nothing turns. -/
theorem run_update_same {w : World} {b : Nat} {es : Array MapEntry} {clk : Nat} (s : ByteArray) (e : MapEntry) (hb : w.heap[b]? = some (.map es clk)) (hk : ∀ x ∈ es.toList, ∃ k, x.key = .string k) (hnd : (es.toList.map (·.key)).Nodup) (he : e ∈ es.toList) (hs : e.key = .string s) :
    (Instr.mapUpdate 83 (.map (some b)) (.string s) e.val).run Tryz.prog w = .ok () w := by
  have hc : (Instr.checkKey false 10000 9 (.string s)).run Tryz.prog w = .ok () w := MapKept.run_checkKey (k := .string s) u9 (by simp [MapKept.IsKey]) false 9999
  obtain ⟨j, h1, h2⟩ := findNow_some es.toList s 0 hk hnd e he hs
  have hf := run_findKey (w := w) h1
  rw [Nat.zero_add] at hf
  have hj : es[j]? = some e := by simpa using h2
  have hst : (Instr.keyThatStays (.string s) (.string s)).run Tryz.prog w = .ok (.string s) w := by
    have hb : Instr.sameBits 10000 (.string s) (.string s) = true := ba_eq s
    simp [Instr.keyThatStays, hb]
  have hmod : es.modify j (fun x => { x with key := .string s, val := e.val }) = es := modify_self es j _ fun x hx => by
    rw [hj] at hx
    obtain rfl := Option.some.inj hx
    rw [← hs]
  have hself := setMap_self hb
  unfold setMap at hself
  simp [Instr.mapUpdate, run_underlying u83, getObj, setObj, hb, Sem.run, hc, hf, hj, hs, hst, hmod, hself]

/-- An entry is struck out. -/
theorem run_delete {w : World} {b : Nat} {es : Array MapEntry} {clk : Nat} (s : ByteArray) (e : MapEntry) (hb : w.heap[b]? = some (.map es clk)) (hk : ∀ x ∈ es.toList, ∃ k, x.key = .string k) (hnd : (es.toList.map (·.key)).Nodup) (he : e ∈ es.toList) (hs : e.key = .string s) (ty : TypeId) :
    ∃ j, es[j]? = some e ∧ (Builtin.delete_ #[83, 9] ty #[.map (some b), .string s]).run Tryz.prog w = .ok (.tuple #[]) (setMap w b (es.eraseIdxIfInBounds j) clk) := by
  have hc : (Instr.checkKey es.isEmpty 10000 9 (.string s)).run Tryz.prog w = .ok () w := MapKept.run_checkKey (k := .string s) u9 (by simp [MapKept.IsKey]) _ 9999
  obtain ⟨j, h1, h2⟩ := findNow_some es.toList s 0 hk hnd e he hs
  have hf := run_findKey (w := w) h1
  rw [Nat.zero_add] at hf
  refine ⟨j, by simpa using h2, ?_⟩
  simp [Builtin.delete_, run_underlying u83, getObj, setObj, hb, Sem.run, hc, hf, setMap]
end Go.Gj

/-
  impl.toGo: a record becomes a value of any, in new memory that is not frozen. (Printed by wip/gen_togou.py.)
-/
namespace Go.GjU
set_option linter.unusedSimpArgs false
set_option linter.unusedVariables false
set_option linter.unnecessarySimpa false
open Go Go.RowKit Go.Proofs Go.Gj

/-- The blocks that came since, none of them frozen. -/
def since (n : Nat) (w : World) : Nat → Prop := fun b => n ≤ b ∧ b < w.heap.size ∧ ∀ j, w.frozen? ⟨b, j, none⟩ = false

theorem sinceU_below {w w' : World} {n m : Nat} (hb : Below w.heap.size w w') (hm : m ≤ n) {b : Nat} (h : since n w b) : since m w' b :=
  ⟨Nat.le_trans hm h.1, Nat.lt_of_lt_of_le h.2.1 hb.size, fun j => (World.frozen?_of_block (hb.block b h.2.1)).trans (h.2.2 j)⟩
theorem keepU {w w' : World} {n m : Nat} {x : J} {v : Value} (h : ARep w (GjU.since n w) x v) (hb : Below w.heap.size w w') (hm : m ≤ n) : ARep w' (GjU.since m w') x v :=
  ARep.keep (.of_below hb fun _ h => h.2.1) (fun _ h => sinceU_below hb hm h) _ _ h

/-- A new slice, filled up to a place. -/
def OutInv (w : World) (B : Nat) (l : List J) (k : Nat) : Prop :=
  ∃ cs : Array Value, w.heap[B]? = some (.cells cs 20) ∧ cs.size = l.length ∧ ∀ j (hj : j < l.length), j < k → ∃ c, cs[j]? = some c ∧ ARep w (since (B + 1) w) l[j] c

theorem OutInv.lt {w : World} {B : Nat} {l : List J} {k : Nat} (h : OutInv w B l k) : B < w.heap.size := by
  obtain ⟨cs, h, _⟩ := h; exact (Array.getElem?_eq_some_iff.1 h).1
theorem OutInv.cell {w : World} {B : Nat} {l : List J} {k : Nat} (h : OutInv w B l k) (j : Nat) (hj : j < l.length) : ∃ v, w.cell? ⟨B, j, none⟩ = some v := by
  obtain ⟨cs, h, hs, _⟩ := h
  exact ⟨cs[j]'(by omega), by simp [World.cell?, h]⟩
theorem OutInv.frozen {w : World} {B : Nat} {l : List J} {k : Nat} (h : OutInv w B l k) (j : Nat) : w.frozen? ⟨B, j, none⟩ = false := by
  obtain ⟨cs, h, _⟩ := h
  simp [World.frozen?, h]
theorem OutInv.below {w w' : World} {B : Nat} {l : List J} {k : Nat} (h : OutInv w B l k) (hb : Below w.heap.size w w') : OutInv w' B l k := by
  have hlt := h.lt
  obtain ⟨cs, h, hs, ha⟩ := h
  refine ⟨cs, (hb.block B hlt).trans h, hs, fun j hj hk => ?_⟩
  obtain ⟨c, hc, hr⟩ := ha j hj hk
  exact ⟨c, hc, keepU hr hb (Nat.le_refl _)⟩
theorem OutInv.set {w : World} {B : Nat} {l : List J} {k : Nat} (h : OutInv w B l k) (hk : k < l.length) {g : Value} (hg : ARep w (since (B + 1) w) l[k] g) : OutInv (w.setCell ⟨B, k, none⟩ g) B l (k + 1) := by
  obtain ⟨cs, h, hs, ha⟩ := h
  have hsame : Same (GjU.since (B + 1) w) w (w.setCell ⟨B, k, none⟩ g) := fun b hb => Below.heap_setCell _ _ _ _ (by have := hb.1; show b ≠ B; omega)
  refine ⟨cs.setIfInBounds k g, by simp [World.setCell, Array.getElem?_modify, h], by simpa using hs, fun j hj hjk => ?_⟩
  by_cases e : j = k
  · subst e
    exact ⟨g, by rw [Array.getElem?_setIfInBounds_self_of_lt (by omega)], ARep.keep hsame (fun b hb => ⟨hb.1, by simpa [World.setCell] using hb.2.1, fun j => (World.frozen?_of_block (hsame b hb)).trans (hb.2.2 j)⟩) _ _ hg⟩
  · obtain ⟨c, hc, hr⟩ := ha j hj (by omega)
    exact ⟨c, by rw [Array.getElem?_setIfInBounds_ne (by omega)]; exact hc, ARep.keep hsame (fun b hb => ⟨hb.1, by simpa [World.setCell] using hb.2.1, fun j => (World.frozen?_of_block (hsame b hb)).trans (hb.2.2 j)⟩) _ _ hr⟩
theorem OutInv.all {w : World} {B : Nat} {l : List J} (h : OutInv w B l l.length) : ACells w (since B w) B l 0 := by
  obtain ⟨cs, h, hs, ha⟩ := h
  refine ACells.of l 0 fun j hj => ?_
  obtain ⟨c, hc, hr⟩ := ha j hj hj
  exact ⟨c, by simp [World.cell?, h, hc], hr.mono fun b hb => ⟨by have := hb.1; omega, hb.2⟩⟩

def ToGoOk (x : J) : Prop := ∀ (w : World) (S : Nat → Prop) (val : Value), x.ok → (∀ b, S b → b < w.heap.size) → JRep w S x val →
  Calls Tryz.prog 49 #[val] w fun e w' => ∃ g, e = .returned (.tuple #[g, .bool true]) ∧ Below w.heap.size w w' ∧ ARep w' (since w.heap.size w') x g

theorem OutInv.new (w : World) (l : List J) : OutInv (w.alloc (.cells (madeCells #[.nilIface] l.length) 20)) w.heap.size l 0 := by
  refine ⟨madeCells #[.nilIface] l.length, ?_, by rw [size_madeCells], fun j _ h => absurd h (Nat.not_lt_zero _)⟩
  rw [show (w.alloc (.cells (madeCells #[.nilIface] l.length) 20)).heap = w.heap.push (.cells (madeCells #[.nilIface] l.length) 20) from rfl, Array.getElem?_push_size]

set_option maxRecDepth 100000 in
theorem listToGo_ok (l : List J) (hx : ∀ x ∈ l, x.ok ∧ ToGoOk x) (hlen : l.length ≤ lim) (w : World) (S : Nat → Prop) (hS : ∀ b, S b → b < w.heap.size) (va : Value) (ha : JSl w S l va) :
    Calls Tryz.prog 75 #[va] w fun e w' => ∃ B, e = .returned (.tuple #[.slice (some ⟨B, 0, none⟩) l.length l.length, .bool true]) ∧ Below w.heap.size w w' ∧ w.heap.size ≤ B ∧ B < w'.heap.size ∧ (∀ j, w'.frozen? ⟨B, j, none⟩ = false) ∧ ACells w' (since w.heap.size w') B l 0 := by
  obtain ⟨a1, c1, rfl, hn1, h1⟩ := ha.at
  unfold mostLen at hn1
  unfold lim at hlen
  have hmk := run_make80 w l.length (by omega)
  have HO := Lib.hid (OutInv.new w l)
  have HB := Lib.hid (below1 w (.cells (madeCells #[.nilIface] l.length) 20))
  go_enter Tryz.func75, Tryz.ntmps75
  go_wp2_with fail
  go_loopw [14] (fun i wr => ∃ k : Nat, k ≤ l.length ∧ i = .int .i64 k ∧ Below w.heap.size w wr ∧ OutInv wr w.heap.size l k) (fun i _ => l.length - (intOf i).toNat)
  case atStart => exact ⟨0, Nat.zero_le _, rfl, HB.out, HO.out⟩
  case round =>
    obtain ⟨k, hk1, rfl, hbel, hinv⟩ := hrel
    by_cases hlt : k < l.length
    · obtain ⟨b1, o1, rfl, hs1, d0, d1, d2, d3, d4, d5, g0, g1, g2, g3, g4, g5, hr1⟩ := h1 k hlt
      have G := fun o => hbel.cell (p := ⟨b1, o, none⟩) (hS b1 hs1)
      rw [← G] at g0 g1 g2 g3 g4 g5
      clear G
      obtain ⟨s1, s2, s3, hagg, _, j1, j2, j3⟩ := hr1.parts
      obtain ⟨aa1, ac1, rfl, _⟩ := j1.at
      obtain ⟨aa2, ac2, rfl, _⟩ := j2.at
      obtain ⟨aa3, ac3, rfl, _⟩ := j3.at
      obtain ⟨rfl, rfl, rfl, rfl, rfl, rfl⟩ : d0 = .int .i64 l[k].kind ∧ d1 = .int .i64 l[k].half ∧ d2 = .string l[k].text ∧ d3 = .slice aa1 l[k].list.length ac1 ∧ d4 = .slice aa2 l[k].keys.length ac2 ∧ d5 = .slice aa3 l[k].vals.length ac3 := by simpa using hagg
      clear hagg j1 j2 j3
      have HB2 := Lib.hid (below1 wr (.cells #[.int .i64 l[k].kind, .int .i64 l[k].half, .string l[k].text, .slice aa1 l[k].list.length ac1, .slice aa2 l[k].keys.length ac2, .slice aa3 l[k].vals.length ac3] 26))
      have hin2 := hinv.below HB2.out
      have hr2 := hr1.below (w' := wr) hbel hS
      have hr2 := hr2.below HB2.out (fun b hb => Nat.lt_of_lt_of_le (hS b hb) hbel.size)
      have HC := Lib.hid ((hx l[k] (List.getElem_mem hlt)).2 _ S _ (hx l[k] (List.getElem_mem hlt)).1 (fun b hb => Nat.lt_of_lt_of_le (Nat.lt_of_lt_of_le (hS b hb) hbel.size) HB2.out.size) hr2)
      have HL := Lib.hid (hinv.lt)
      have HI := Lib.hid hin2
      have HBe := Lib.hid hbel
      clear hinv hin2 hr1 hr2 hbel
      go_upto_region 5 with fail
      go_upto_region 8 with (go_at_call 49; refine HC.out.mono ?_; rintro e w' ⟨g, rfl, hb', hg⟩)
      have HI2 := HI.out.below hb'
      obtain ⟨cv, hcv⟩ := HI2.cell k hlt
      have hfz := HI2.frozen k
      have HI3 := Lib.hid (HI2.set hlt (ARep.mono hg fun b hb => ⟨Nat.le_trans (Nat.le_trans HL.out HB2.out.size) hb.1, hb.2⟩))
      have HB3 := Lib.hid (((HBe.out.trans (HB2.out.mono HBe.out.size)).trans (hb'.mono (Nat.le_trans HBe.out.size HB2.out.size))).setCell (p := ⟨w.heap.size, k, none⟩) (Nat.le_refl _) g)
      have hsh := hg.shape
      clear HI2 hg
      rcases hsh with rfl | ⟨gt, gv, rfl⟩
      all_goals
        go_wp2_with fail
        go_roundw
        case rel => exact ⟨k + 1, hlt, by go_num, HB3.out, HI3.out⟩
        case measure => simp [intOf]; omega
    · have he : k = l.length := by omega
      have HO := Lib.hid (he ▸ hinv)
      have HBe := Lib.hid hbel
      clear hinv he hbel
      go_wp2_with fail
      exact bodyPost_ret (v := .tuple #[.slice (some ⟨w.heap.size, 0, none⟩) l.length l.length, .bool true]) (by simp [results, Tryz.results75, go_sem]) rfl ⟨_, rfl, HBe.out, Nat.le_refl _, HO.out.lt, HO.out.frozen, HO.out.all⟩
/-- A new map, filled up to a place. -/
def MapInv (w : World) (B : Nat) (ks : List ByteArray) (vs : List J) (k : Nat) : Prop :=
  ∃ es clk, w.heap[B]? = some (.map es clk) ∧ MapKept.Stamped es clk ∧ StrKeys es.toList (ks.take k) ∧ AVals w (since (B + 1) w) es (ks.take k) (vs.take k)

theorem MapInv.lt {w : World} {B : Nat} {ks : List ByteArray} {vs : List J} {k : Nat} (h : MapInv w B ks vs k) : B < w.heap.size := by
  obtain ⟨_, _, h, _⟩ := h; exact (Array.getElem?_eq_some_iff.1 h).1
theorem MapInv.below {w w' : World} {B : Nat} {ks : List ByteArray} {vs : List J} {k : Nat} (h : MapInv w B ks vs k) (hb : Below w.heap.size w w') : MapInv w' B ks vs k := by
  have hlt := h.lt
  obtain ⟨es, clk, h, hs, hk, ha⟩ := h
  exact ⟨es, clk, (hb.block B hlt).trans h, hs, hk, AVals.keep (.of_below hb fun _ h => h.2.1) (fun _ h => sinceU_below hb (Nat.le_refl _) h) _ _ _ ha⟩
theorem MapInv.new (w : World) (ks : List ByteArray) (vs : List J) : MapInv (w.alloc (.map #[] 0)) w.heap.size ks vs 0 := by
  refine ⟨#[], 0, ?_, MapKept.stamped_empty 0, by simp [StrKeys], by simp [AVals]⟩
  rw [show (w.alloc (.map #[] 0)).heap = w.heap.push (.map #[] 0) from rfl, Array.getElem?_push_size]
theorem MapInv.step {w : World} {B : Nat} {ks : List ByteArray} {vs : List J} {k : Nat} (h : MapInv w B ks vs k) (hk : k < ks.length) (hv : k < vs.length) (hr : rises ks) {g : Value} (hg : ARep w (since (B + 1) w) vs[k] g) :
    ∃ w', (Instr.mapUpdate 83 (.map (some B)) (.string ks[k]) g).run Tryz.prog w = .ok () w' ∧ Below B w w' ∧ MapInv w' B ks vs (k + 1) := by
  have hlt := h.lt
  obtain ⟨es, clk, h, hs, hkk, ha⟩ := h
  have hf := rises_fresh hr k hk
  refine ⟨_, run_update_new (ks.take k) ks[k] g h hkk hf, below_setMap _ _ _ _ (Nat.le_refl _), _, _, setMap_same _ _ _ _ hlt, MapKept.stamped_push hs fun x hx e => ?_, ?_, ?_⟩
  · have hm : x.key ∈ es.toList.map (·.key) := List.mem_map.2 ⟨x, hx, rfl⟩
    rw [show es.toList.map (·.key) = _ from hkk, e] at hm
    obtain ⟨y, hy, e2⟩ := List.mem_map.1 hm
    cases e2
    exact hf hy
  · rw [List.take_succ_eq_append_getElem hk]
    unfold StrKeys at hkk ⊢
    rw [Array.toList_push, List.map_append, List.map_append, hkk]; rfl
  · rw [List.take_succ_eq_append_getElem hk, List.take_succ_eq_append_getElem hv]
    have hsame : Same (since (B + 1) w) w (setMap w B (es.push { key := .string ks[k], val := g, born := clk }) (clk + 1)) := fun b hb => setMap_other _ _ _ _ _ (by have := hb.1; omega)
    have hS : ∀ b, since (B + 1) w b → since (B + 1) (setMap w B (es.push { key := .string ks[k], val := g, born := clk }) (clk + 1)) b := fun b hb => ⟨hb.1, by rw [setMap_size]; exact hb.2.1, fun j => (World.frozen?_of_block (hsame b hb)).trans (hb.2.2 j)⟩
    exact AVals.snoc ⟨_, by rw [Array.toList_push]; exact List.mem_append_right _ (List.mem_singleton.2 rfl), rfl, ARep.keep hsame hS _ _ hg⟩ _ _
      (AVals.more hsame hS (fun e he => by rw [Array.toList_push]; exact List.mem_append_left _ he) _ _ ha)
theorem MapInv.all {w : World} {B : Nat} {ks : List ByteArray} {vs : List J} (h : MapInv w B ks vs ks.length) (hl : ks.length = vs.length) (hk : ∀ k ∈ ks, k.size ≤ mostLen) : ARep w (since B w) (.obj ks vs) (.iface 83 (.map (some B))) := by
  have hlt := h.lt
  obtain ⟨es, clk, h, hs, hkk, ha⟩ := h
  rw [List.take_length] at hkk
  rw [List.take_length, hl, List.take_length] at ha
  exact ⟨B, es, clk, rfl, ⟨Nat.le_refl _, hlt, fun j => by simp [World.frozen?, h]⟩, h, hs, List.Perm.of_eq hkk, hk, AVals.keep (fun _ _ => rfl) (fun b hb => ⟨Nat.le_trans (Nat.le_succ _) hb.1, hb.2⟩) _ _ _ ha⟩

set_option maxHeartbeats 4000000 in
set_option maxRecDepth 100000 in
theorem mapToGo_ok (x : J) (_hk6 : x.kind = 6) (hx : ∀ y ∈ x.vals, y.ok ∧ ToGoOk y) (hok : x.ok) (w : World) (S : Nat → Prop) (hS : ∀ b, S b → b < w.heap.size) (va : Value) (ha : JRep w S x va) :
    Calls Tryz.prog 76 #[va] w fun e w' => ∃ B, e = .returned (.tuple #[.map (some B), .bool true]) ∧ Below w.heap.size w w' ∧ w.heap.size ≤ B ∧ ARep w' (since w.heap.size w') (.obj x.keys x.vals) (.iface 83 (.map (some B))) := by
  obtain ⟨s1, s2, s3, rfl, _, j1, j2, j3⟩ := ha.parts
  obtain ⟨hkv, hkl, hri, hks⟩ := ok_keys hok
  generalize x.keys = ks at *
  generalize x.vals = vs at *
  obtain ⟨a1, c1, rfl, hn1, _⟩ := j1.at
  obtain ⟨a2, c2, rfl, hn2, h2⟩ := j2.at
  obtain ⟨a3, c3, rfl, hn3, h3⟩ := j3.at
  unfold mostLen at hn1 hn2 hn3
  unfold lim at hkl
  have hne : ((ks.length : Int) != vs.length) = false := by simp [hkv]
  have HKV := Lib.hid hkv
  clear _hk6 hkv
  have hB := below1 w (.cells #[.int .i64 x.kind, .int .i64 x.half, .string x.text, .slice a1 x.list.length c1, .slice a2 ks.length c2, .slice a3 vs.length c3] 26)
  have hmk := run_makeMap83 (w.alloc (.cells #[.int .i64 x.kind, .int .i64 x.half, .string x.text, .slice a1 x.list.length c1, .slice a2 ks.length c2, .slice a3 vs.length c3] 26)) ks.length
  have hO := MapInv.new (w.alloc (.cells #[.int .i64 x.kind, .int .i64 x.half, .string x.text, .slice a1 x.list.length c1, .slice a2 ks.length c2, .slice a3 vs.length c3] 26)) ks vs
  rw [size_alloc w] at hO
  have HO := Lib.hid hO
  clear hO
  have HB := Lib.hid (below1 (w.alloc (.cells #[.int .i64 x.kind, .int .i64 x.half, .string x.text, .slice a1 x.list.length c1, .slice a2 ks.length c2, .slice a3 vs.length c3] 26)) (.map #[] 0))
  have HB0 := Lib.hid hB
  clear hB
  go_enter Tryz.func76, Tryz.ntmps76
  go_wp2_with fail
  have hBx := Box.new w x.kind x.half x.text (.slice a1 x.list.length c1) (.slice a2 ks.length c2) (.slice a3 vs.length c3)
  go_loopw [23] (fun i wr => ∃ k : Nat, k ≤ ks.length ∧ i = .int .i64 k ∧ Below w.heap.size w wr ∧ w.heap.size + 1 ≤ wr.heap.size ∧ Box wr w.heap.size x.kind x.half x.text (.slice a1 x.list.length c1) (.slice a2 ks.length c2) (.slice a3 vs.length c3) ∧ MapInv wr (w.heap.size + 1) ks vs k) (fun i _ => ks.length - (intOf i).toNat)
  case atStart =>
    refine ⟨0, Nat.zero_le _, rfl, HB0.out.trans (HB.out.mono HB0.out.size), ?_, (HB.out.block _ ?_).trans hBx, HO.out⟩
    · rw [size_alloc, size_alloc]; omega
    · rw [size_alloc]; omega
  case round =>
    obtain ⟨k, hk1, rfl, hbel, hsz, hbox, hinv⟩ := hrel
    obtain ⟨bc0, bc1, bc2, bc3, bc4, bc5⟩ := hbox.c
    by_cases hlt : k < ks.length
    · have hltv : k < vs.length := by have := HKV.out; omega
      have hgk : ∃ b o, a2 = some ⟨b, o, none⟩ ∧ ∀ i (hi : i < ks.length), wr.cell? ⟨b, o + i, none⟩ = some (.string ks[i]) := by
        obtain ⟨b, o, rfl, hsb, _⟩ := h2 k hlt
        refine ⟨b, o, rfl, fun i hi => ?_⟩
        obtain ⟨b', o', e, hsb', hc, _⟩ := h2 i hi
        cases e
        rw [hbel.cell (hS b hsb)]; exact hc
      obtain ⟨b2, o2, rfl, hg2⟩ := hgk
      obtain ⟨b1, o1, rfl, hs1, d0, d1, d2, d3, d4, d5, g0, g1, g2, g3, g4, g5, hr1⟩ := h3 k hltv
      have G := fun o => hbel.cell (p := ⟨b1, o, none⟩) (hS b1 hs1)
      rw [← G] at g0 g1 g2 g3 g4 g5
      clear G
      have hkk := hg2 k hlt
      have hC : Calls Tryz.prog 49 #[.agg #[d0, d1, d2, d3, d4, d5]] wr fun e w' => ∃ g, e = .returned (.tuple #[g, .bool true]) ∧ Below wr.heap.size wr w' ∧ ARep w' (since wr.heap.size w') vs[k] g :=
        (hx vs[k] (List.getElem_mem hltv)).2 _ S _ (hx vs[k] (List.getElem_mem hltv)).1 (fun b hb => Nat.lt_of_lt_of_le (hS b hb) hbel.size) (hr1.below hbel hS)
      have HC := Lib.hid hC
      have HI := Lib.hid hinv
      have HBe := Lib.hid hbel
      have HBx := Lib.hid hbox
      have HS := Lib.hid hsz
      have HS2 := Lib.hid (Nat.succ_le_of_lt hinv.lt)
      clear hC hinv hbel hbox hsz hr1
      go_upto_region 7 with fail
      by_cases hk0 : k = 0
      · have hgt : (0 < k) = False := by simp [hk0]
        have hgt2 : ((0 : Int) < (k : Int)) = False := by simp [hk0]
        clear hk0
        go_upto_region 9 with fail
        go_upto_region 12 with (go_at_call 49; refine HC.out.mono ?_; rintro e w' ⟨g, rfl, hb', hg⟩)
        obtain ⟨w2, hrun, hb2, hi2⟩ := (HI.out.below hb').step hlt hltv hri (ARep.mono hg fun b hb => ⟨Nat.le_trans HS2.out hb.1, hb.2⟩)
        have hsz2 := HBx.out
        have HRel := Lib.hid (show k + 1 ≤ ks.length ∧ Below w.heap.size w w2 ∧ w.heap.size + 1 ≤ w2.heap.size ∧ Box w2 w.heap.size x.kind x.half x.text (.slice a1 x.list.length c1) (.slice (some ⟨b2, o2, none⟩) ks.length c2) (.slice (some ⟨b1, o1, none⟩) vs.length c3) ∧ MapInv w2 (w.heap.size + 1) ks vs (k + 1) from
          ⟨hlt, (HBe.out.trans (hb'.mono (Nat.le_trans (Nat.le_succ _) HS.out))).trans (hb2.mono (Nat.le_succ _)), Nat.le_trans (Nat.le_trans HS.out hb'.size) hb2.size, (hb2.block _ (Nat.lt_succ_self _)).trans ((hb'.block _ HS.out).trans HBx.out), hi2⟩)
        clear hg hb2 hi2 hb'
        go_wp2_with fail
        go_roundw
        case rel => exact ⟨k + 1, HRel.out.1, by go_num, HRel.out.2⟩
        case measure => simp [intOf]; omega
      · obtain ⟨m, rfl⟩ : ∃ m, k = m + 1 := ⟨k - 1, by omega⟩
        clear hk0
        have hkm := hg2 m (by omega)
        have hlo : Op.bytesLess ks[m].toList ks[m + 1].toList = true := rises_lt hri m (m + 1) (by omega) hlt
        go_upto_region 9 with fail
        go_upto_region 12 with (go_at_call 49; refine HC.out.mono ?_; rintro e w' ⟨g, rfl, hb', hg⟩)
        obtain ⟨w2, hrun, hb2, hi2⟩ := (HI.out.below hb').step hlt hltv hri (ARep.mono hg fun b hb => ⟨Nat.le_trans HS2.out hb.1, hb.2⟩)
        have hsz2 := HBx.out
        have HRel := Lib.hid (show (m + 1) + 1 ≤ ks.length ∧ Below w.heap.size w w2 ∧ w.heap.size + 1 ≤ w2.heap.size ∧ Box w2 w.heap.size x.kind x.half x.text (.slice a1 x.list.length c1) (.slice (some ⟨b2, o2, none⟩) ks.length c2) (.slice (some ⟨b1, o1, none⟩) vs.length c3) ∧ MapInv w2 (w.heap.size + 1) ks vs ((m + 1) + 1) from
          ⟨hlt, (HBe.out.trans (hb'.mono (Nat.le_trans (Nat.le_succ _) HS.out))).trans (hb2.mono (Nat.le_succ _)), Nat.le_trans (Nat.le_trans HS.out hb'.size) hb2.size, (hb2.block _ (Nat.lt_succ_self _)).trans ((hb'.block _ HS.out).trans HBx.out), hi2⟩)
        clear hg hb2 hi2 hb'
        go_wp2_with fail
        go_roundw
        case rel => exact ⟨(m + 1) + 1, HRel.out.1, by go_num, HRel.out.2⟩
        case measure => simp [intOf]; omega
    · have he : k = ks.length := by omega
      have HI := Lib.hid (he ▸ hinv)
      have HBe := Lib.hid hbel
      clear hinv he hbel
      go_wp2_with fail
      refine bodyPost_ret (v := .tuple #[.map (some (w.heap.size + 1)), .bool true]) (by simp [results, Tryz.results76, go_sem]) rfl ⟨_, rfl, HBe.out, Nat.le_succ _, ?_⟩
      exact ARep.mono (HI.out.all HKV.out fun k hk => by have := hks k hk; unfold lim at this; unfold mostLen; omega) fun b hb => ⟨Nat.le_trans (Nat.le_succ _) hb.1, hb.2⟩
theorem tog_null : ToGoOk .null := by
  intro w S val hok hS hr
  obtain ⟨s1, s2, s3, rfl, _⟩ := hr.parts
  have HB := Lib.hid (below1 w (.cells #[.int .i64 0, .int .i64 0, .string ⟨#[]⟩, s1, s2, s3] 26))
  simp only [J.kind, J.half, J.text] at *
  clear hr
  go_enter Tryz.func49, Tryz.ntmps49
  go_wp2_with fail
  exact bodyPost_ret (v := .tuple #[.nilIface, .bool true]) (by simp [results, Tryz.results49, go_sem]) rfl ⟨_, rfl, HB.out, rfl⟩

theorem tog_bool (b : Bool) : ToGoOk (.bool b) := by
  intro w S val hok hS hr
  obtain ⟨s1, s2, s3, rfl, _⟩ := hr.parts
  cases b
  · have HB := Lib.hid (below1 w (.cells #[.int .i64 1, .int .i64 0, .string ⟨#[]⟩, s1, s2, s3] 26))
    simp only [J.kind, J.half, J.text] at *
    clear hr
    go_enter Tryz.func49, Tryz.ntmps49
    go_wp2_with fail
    exact bodyPost_ret (v := .tuple #[.iface 4 (.bool false), .bool true]) (by simp [results, Tryz.results49, go_sem]) rfl ⟨_, rfl, HB.out, rfl⟩
  · have HB := Lib.hid (below1 w (.cells #[.int .i64 2, .int .i64 0, .string ⟨#[]⟩, s1, s2, s3] 26))
    simp only [J.kind, J.half, J.text] at *
    clear hr
    go_enter Tryz.func49, Tryz.ntmps49
    go_wp2_with fail
    exact bodyPost_ret (v := .tuple #[.iface 4 (.bool true), .bool true]) (by simp [results, Tryz.results49, go_sem]) rfl ⟨_, rfl, HB.out, rfl⟩

theorem tog_str (s : ByteArray) : ToGoOk (.str s) := by
  intro w S val hok hS hr
  obtain ⟨s1, s2, s3, rfl, hs, _⟩ := hr.parts
  have HB := Lib.hid (below1 w (.cells #[.int .i64 4, .int .i64 0, .string s, s1, s2, s3] 26))
  simp only [J.kind, J.half, J.text] at *
  have HS := Lib.hid hs
  clear hr hs hok
  go_enter Tryz.func49, Tryz.ntmps49
  go_wp2_with fail
  exact bodyPost_ret (v := .tuple #[.iface 9 (.string s), .bool true]) (by simp [results, Tryz.results49, go_sem]) rfl ⟨_, rfl, HB.out, rfl, HS.out⟩

theorem tog_num (h : Int) : ToGoOk (.num h) := by
  intro w S val hok hS hr
  obtain ⟨s1, s2, s3, rfl, _⟩ := hr.parts
  have HB := Lib.hid (below1 w (.cells #[.int .i64 3, .int .i64 h, .string ⟨#[]⟩, s1, s2, s3] 26))
  obtain ⟨h1, h2, h3⟩ := hok
  simp only [J.kind, J.half, J.text] at *
  clear hr
  by_cases he : h.tmod 2 = 0
  · have hdv := Int.dvd_of_tmod_eq_zero he
    have e1 : h.tdiv 2 = h / 2 := Int.tdiv_eq_ediv_of_dvd hdv
    have HR := Lib.hid (show h % 2 = 0 ∧ -4611686018427387904 ≤ h ∧ h ≤ 4611686018427387904 by omega)
    have ht : (h.tmod 2 == 0) = true := by simp [he]
    clear he h3 hdv
    go_enter Tryz.func49, Tryz.ntmps49
    go_wp2_with fail
    exact bodyPost_ret (v := .tuple #[.iface 3 (.int .i64 (h / 2)), .bool true]) (by simp [results, Tryz.results49, go_sem]) rfl ⟨_, rfl, HB.out, .inl ⟨HR.out.1, HR.out.2.1, HR.out.2.2, rfl⟩⟩
  · have hnd : ¬ (2 : Int) ∣ h := fun hd => he (Int.tmod_eq_zero_of_dvd hd)
    have hb : h.natAbs < 2 ^ 53 := h3.resolve_left (by omega)
    have h0 : h ≠ 0 := by rintro rfl; exact he rfl
    have HR := Lib.hid (show h % 2 = 1 by omega)
    have HBB := Lib.hid hb
    have ht : (h.tmod 2 == 0) = false := by simp [he]
    have hcv : ∀ w, (convert 3 79 (.int .i64 h)).run Tryz.prog w = .ok (.float .f64 (fl h 0)) w := fun w => run_convert_int_float w 3 79 .i64 .f64 h (by kernel_rfl) (by kernel_rfl)
    have hq : ∀ t w, (binOp .quo t (.float .f64 (fl h 0)) (.float .f64 4611686018427387904)).run Tryz.prog w = .ok (.float .f64 (fl h (-1))) w := fun t w => run_float_arith w .quo t .f64 _ _ _ (div_two h0 hb)
    clear he h3 hb h0 hnd
    go_enter Tryz.func49, Tryz.ntmps49
    go_wp2_with fail
    exact bodyPost_ret (v := .tuple #[.iface 79 (.float .f64 (fl h (-1))), .bool true]) (by simp [results, Tryz.results49, go_sem]) rfl ⟨_, rfl, HB.out, .inr ⟨HR.out, HBB.out, rfl⟩⟩

theorem tog_arr (l : List J) (ih : ∀ y ∈ l, ToGoOk y) : ToGoOk (.arr l) := by
  intro w S val hok hS hr
  obtain ⟨hll, hoks⟩ := ok_list hok
  obtain ⟨s1, s2, s3, rfl, hs, j1, _⟩ := hr.parts
  simp only [J.kind, J.half, J.text, J.list] at *
  have HB := Lib.hid (below1 w (.cells #[.int .i64 5, .int .i64 0, .string ⟨#[]⟩, s1, s2, s3] 26))
  have HC := Lib.hid (listToGo_ok l (fun y hy => ⟨hoks y hy, ih y hy⟩) hll (w.alloc (.cells #[.int .i64 5, .int .i64 0, .string ⟨#[]⟩, s1, s2, s3] 26)) S (lt_below HB.out hS) s1 (j1.below HB.out hS))
  clear hr j1 hok hoks ih
  go_enter Tryz.func49, Tryz.ntmps49
  go_wp2_with (go_at_call 75; refine HC.out.mono ?_; rintro e w' ⟨B, rfl, hb', hB1, hB2, hB3, hc⟩)
  refine bodyPost_ret (v := .tuple #[.iface 80 (.slice (some ⟨B, 0, none⟩) l.length l.length), .bool true]) (by simp [results, Tryz.results49, go_sem]) rfl ⟨_, rfl, HB.out.trans (hb'.mono HB.out.size), B, 0, l.length, rfl, ?_, ⟨Nat.le_trans HB.out.size hB1, hB2, hB3⟩, ?_⟩
  · unfold lim at hll; unfold capMost; omega
  · exact ACells.keep (fun _ _ => rfl) (fun b hb => ⟨Nat.le_trans HB.out.size hb.1, hb.2⟩) _ ⟨hB1, hB2, hB3⟩ _ _ hc

theorem tog_obj (ks : List ByteArray) (vs : List J) (ih : ∀ y ∈ vs, ToGoOk y) : ToGoOk (.obj ks vs) := by
  intro w S val hok hS hr
  obtain ⟨hll, hoks⟩ := ok_vals hok
  have hr0 := hr
  obtain ⟨s1, s2, s3, rfl, hs, _⟩ := hr.parts
  simp only [J.kind, J.half, J.text] at *
  have HB := Lib.hid (below1 w (.cells #[.int .i64 6, .int .i64 0, .string ⟨#[]⟩, s1, s2, s3] 26))
  have HC := Lib.hid (mapToGo_ok (.obj ks vs) rfl (fun y hy => ⟨hoks y hy, ih y hy⟩) hok (w.alloc (.cells #[.int .i64 6, .int .i64 0, .string ⟨#[]⟩, s1, s2, s3] 26)) S (lt_below HB.out hS) _ (hr0.below HB.out hS))
  clear hr hr0 hok hoks ih
  go_enter Tryz.func49, Tryz.ntmps49
  go_wp2_with (go_at_call 76; refine HC.out.mono ?_; rintro e w' ⟨B, rfl, hb', hB1, hc⟩)
  refine bodyPost_ret (v := .tuple #[.iface 83 (.map (some B)), .bool true]) (by simp [results, Tryz.results49, go_sem]) rfl ⟨_, rfl, HB.out.trans (hb'.mono HB.out.size), ?_⟩
  exact hc.mono fun b hb => ⟨Nat.le_trans HB.out.size hb.1, hb.2⟩

/-- impl.toGo. -/
theorem toGo_ok (x : J) : ToGoOk x := by
  match x with
  | .null => exact tog_null
  | .bool b => exact tog_bool b
  | .num h => exact tog_num h
  | .str s => exact tog_str s
  | .arr l => exact tog_arr l fun y hy => toGo_ok y
  | .obj ks vs => exact tog_obj ks vs fun y hy => toGo_ok y
termination_by SizeOf.sizeOf x
decreasing_by
  · have := List.sizeOf_lt_of_mem hy; simp; omega
  · have := List.sizeOf_lt_of_mem hy; simp; omega
end Go.GjU

/-
  deleteEmpty at an object: the walk alone, over what is said of each entry.
-/
namespace Go.Gj
set_option linter.unusedSimpArgs false
set_option linter.unusedVariables false
set_option linter.unnecessarySimpa false
open Go Go.RowKit Go.Proofs
open Go.ChangeMaps (setBlock)

/-- What stands where something is to be struck out. -/
def hole : Value := .iface 141 (.agg #[])
/-- Blocks behind a place stand. -/
def Up (n : Nat) (w w' : World) : Prop := w.heap.size ≤ w'.heap.size ∧ ∀ b, n ≤ b → b < w.heap.size → w'.heap[b]? = w.heap[b]?
theorem Up.refl (n : Nat) (w : World) : Up n w w := ⟨Nat.le_refl _, fun _ _ _ => rfl⟩

theorem hole_eq (w : World) : (binOp .eql 20 (.iface 141 (.agg #[])) (.iface 141 (.agg #[]))).run Tryz.prog w = .ok (.bool true) w := by kernel_rfl
theorem hole_eg (a b : Operand) (w : World) : (eqGuard .eql 20 a b (.iface 141 (.agg #[])) (.iface 141 (.agg #[]))).run Tryz.prog w = .ok () w := by kernel_rfl

/-- It is not what is to be struck out. -/
def NotHole (g : Value) : Prop := (∀ w, (binOp .eql 20 g (.iface 141 (.agg #[]))).run Tryz.prog w = .ok (.bool false) w) ∧ (∀ a b w, (eqGuard .eql 20 a b g (.iface 141 (.agg #[]))).run Tryz.prog w = .ok () w) ∧ (∀ w, (binOp .neq 20 g (.iface 141 (.agg #[]))).run Tryz.prog w = .ok (.bool true) w) ∧ (∀ a b w, (eqGuard .neq 20 a b g (.iface 141 (.agg #[]))).run Tryz.prog w = .ok () w)

theorem ARep.notHole {x : J} {w : World} {S : Nat → Prop} {g : Value} (h : ARep w S x g) : NotHole g := by
  cases x with
  | null => obtain rfl : g = .nilIface := h; exact ⟨fun w => by kernel_rfl, fun a b w => by kernel_rfl, fun w => by kernel_rfl, fun a b w => by kernel_rfl⟩
  | bool b => obtain rfl : g = .iface 4 (.bool b) := h; exact ⟨fun w => by kernel_rfl, fun a b w => by kernel_rfl, fun w => by kernel_rfl, fun a b w => by kernel_rfl⟩
  | num n =>
    rcases h with ⟨_, _, _, rfl⟩ | ⟨_, _, rfl⟩
    · exact ⟨fun w => by kernel_rfl, fun a b w => by kernel_rfl, fun w => by kernel_rfl, fun a b w => by kernel_rfl⟩
    · exact ⟨fun w => by kernel_rfl, fun a b w => by kernel_rfl, fun w => by kernel_rfl, fun a b w => by kernel_rfl⟩
  | str s => obtain rfl : g = .iface 9 (.string s) := h.1; exact ⟨fun w => by kernel_rfl, fun a b w => by kernel_rfl, fun w => by kernel_rfl, fun a b w => by kernel_rfl⟩
  | arr l => obtain ⟨b, o, c, rfl, _⟩ := h; exact ⟨fun w => by kernel_rfl, fun a b w => by kernel_rfl, fun w => by kernel_rfl, fun a b w => by kernel_rfl⟩
  | obj ks vs => obtain ⟨r, es, clk, rfl, _⟩ := h; exact ⟨fun w => by kernel_rfl, fun a b w => by kernel_rfl, fun w => by kernel_rfl, fun a b w => by kernel_rfl⟩

theorem below_iter {n : Nat} {w w1 : World} {R : Nat} {o : Obj} (h1 : w1 = w ∨ w1 = w.drew) (hn : n ≤ R) : Below n w (setBlock w1 R o) := by
  rcases h1 with rfl | rfl
  · exact ⟨rfl, rfl, rfl, by simp [setBlock], fun k hk => by simp only [setBlock]; rw [Array.getElem?_setIfInBounds, if_neg (by omega)]⟩
  · exact ⟨rfl, rfl, rfl, by simp [setBlock], fun k hk => by simp only [setBlock]; rw [Array.getElem?_setIfInBounds, if_neg (by omega)]; rfl⟩
theorem size_iter {w w1 : World} {R : Nat} {o : Obj} (h1 : w1 = w ∨ w1 = w.drew) : (setBlock w1 R o).heap.size = w.heap.size := by
  rcases h1 with rfl | rfl <;> simp [setBlock]
theorem at_iter {w w1 : World} {R : Nat} {o : Obj} (h1 : w1 = w ∨ w1 = w.drew) (h : R < w.heap.size) : (setBlock w1 R o).heap[R]? = some o := by
  rcases h1 with rfl | rfl <;> simp [setBlock, h]

set_option maxHeartbeats 1000000 in
set_option maxRecDepth 100000 in
theorem del_obj_walk (r : Nat) (es : Array MapEntry) (clk : Nat) (w0 : World) (I : Array Nat → World → Prop)
    (hb0 : w0.heap[r]? = some (.map es clk)) (hst : MapKept.Stamped es clk) (h0 : I #[] w0)
    (hfr : ∀ seen w w', I seen w → w0.heap.size ≤ w.heap.size → Below w0.heap.size w w' → I seen w')
    (hcur : ∀ seen w, I seen w → ∃ es' : Array MapEntry, w.heap[r]? = some (.map es' clk) ∧ es'.toList.Sublist es.toList ∧ ∀ e ∈ es.toList, seen.contains e.born = false → e ∈ es'.toList)
    (hstep : ∀ seen w e, e ∈ es.toList → seen.contains e.born = false → w0.heap.size ≤ w.heap.size → I seen w →
      (e.val = .iface 141 (.agg #[]) ∧ ∃ w', (∀ ty, (Builtin.delete_ #[83, 9] ty #[.map (some r), e.key]).run Tryz.prog w = .ok (.tuple #[]) w') ∧ Up w0.heap.size w w' ∧ I (seen.push e.born) w') ∨
      (NotHole e.val ∧ Calls Tryz.prog 187 #[e.val] w fun x w' => x = .returned e.val ∧ (Instr.mapUpdate 83 (.map (some r)) e.key e.val).run Tryz.prog w' = .ok () w' ∧ Up w0.heap.size w w' ∧ I (seen.push e.born) w')) :
    Calls Tryz.prog 187 #[.iface 83 (.map (some r))] w0 fun x w' => x = .returned (.iface 83 (.map (some r))) ∧ w0.heap.size ≤ w'.heap.size ∧ ∃ seen : Array Nat, (∀ e ∈ es.toList, seen.contains e.born = true) ∧ I seen w' := by
  have hrg := run_range_map w0 83 9 20 r es clk Tryz.underlying83 hb0
  have HB0 := Lib.hid (hfr #[] w0 _ h0 (Nat.le_refl _) (below1 w0 (.mapIter (some r) clk #[] clk)))
  have HST := Lib.hid hst
  have HFR := Lib.hid hfr
  have HCUR := Lib.hid hcur
  have HSTEP := Lib.hid hstep
  clear hfr hcur hstep hst h0 hb0
  go_enter Tryz.func187, Tryz.ntmps187
  go_wp2_with fail
  go_loopw [5] (fun _ wr => ∃ (seen : Array Nat) (c0 : Nat), w0.heap.size < wr.heap.size ∧ wr.heap[w0.heap.size]? = some (.mapIter (some r) clk seen c0) ∧ clk ≤ c0 ∧ I seen wr) (fun _ wr => (leftOf es (wr.iterSeen w0.heap.size)).size)
  case atStart => exact ⟨#[], clk, by rw [size_alloc]; omega, heap_alloc_new _ _, Nat.le_refl _, HB0.out⟩
  case round =>
    obtain ⟨seen, c0, hsz, hit, hcc, hI⟩ := hrel
    obtain ⟨es', hes, hsub, hall⟩ := HCUR.out seen wr hI
    have hty : ∀ ty, (Instr.next (.pointer (some ⟨w0.heap.size, 0, none⟩)) false ty).run Tryz.prog wr = (Instr.next (.pointer (some ⟨w0.heap.size, 0, none⟩)) false 0).run Tryz.prog wr := fun _ => rfl
    have hborn : (es'.toList.map (·.born)).Nodup := (hsub.map _).nodup HST.out.2.1
    rcases run_next_at (P := Tryz.prog) wr 0 w0.heap.size r clk c0 seen es' clk hit hes (fun x hx => HST.out.1 x (hsub.subset hx)) hcc with ⟨hn0, hrun⟩ | ⟨e, he, w1, hal, hrun⟩
    · have HEND : Hid (∀ e ∈ es.toList, seen.contains e.born = true) := Lib.hid fun e he => by
        cases hc : seen.contains e.born with
        | true => rfl
        | false =>
          have hm : e ∈ (leftOf es' seen).toList := by
            have := hall e he hc
            simp [leftOf] at this ⊢
            exact ⟨this, by simpa using hc⟩
          have : 0 < (leftOf es' seen).size := by
            rw [← Array.length_toList]; exact List.length_pos_of_mem hm
          omega
      have HI := Lib.hid hI
      have HSZ := Lib.hid hsz
      clear hes hsub hall hborn hI hit hcc hn0 hsz
      rw [hrun] at hty
      clear hrun
      go_wp2_with fail
      exact bodyPost_ret (v := .iface 83 (.map (some r))) (by simp [results, Tryz.results187, go_sem]) rfl ⟨rfl, Nat.le_of_lt HSZ.out, seen, HEND.out, HI.out⟩
    · rw [hrun] at hty
      clear hrun
      have hel := mem_left he
      have hes1 := hsub.subset hel.1
      obtain ⟨wn, hwn⟩ : ∃ wn, wn = setBlock w1 w0.heap.size (.mapIter (some r) clk (seen.push e.born) clk) := ⟨_, rfl⟩
      have hbn : Below w0.heap.size wr wn := by rw [hwn]; exact below_iter hal (Nat.le_refl _)
      have hsn : wn.heap.size = wr.heap.size := by rw [hwn]; exact size_iter hal
      have hin : wn.heap[w0.heap.size]? = some (.mapIter (some r) clk (seen.push e.born) clk) := by rw [hwn]; exact at_iter hal hsz
      rw [← hwn] at hty
      clear hwn hal
      have hIn := HFR.out seen wr wn hI (Nat.le_of_lt hsz) hbn
      obtain ⟨es2, hes2, hsub2, hall2⟩ := HCUR.out seen wn hIn
      have hent := run_entry_at (P := Tryz.prog) wn w0.heap.size r clk seen es2 clk e hin hes2 (hall2 e hes1 hel.2) ((hsub2.map _).nodup HST.out.2.1)
      have HME : Hid ((leftOf es (seen.push e.born)).size < (leftOf es seen).size ∧ wr.iterSeen w0.heap.size = seen) := Lib.hid ⟨left_shrinks es seen e (by simp [leftOf]; exact ⟨by simpa using hes1, by simpa using hel.2⟩), by simp [World.iterSeen, hit]⟩
      have hs := HSTEP.out seen wn e hes1 hel.2 (by omega) hIn
      clear hes hsub hall hborn hI hit hcc hIn hes2 hsub2 hall2 he hel hes1
      obtain ⟨ek, ev, eb⟩ := e
      simp only at *
      rcases hs with ⟨rfl, w2, hdel, hup, hI2⟩ | ⟨hnh, hcall⟩
      · have hq1 := hole_eq
        have hq2 := hole_eg
        have HR : Hid (w0.heap.size < w2.heap.size ∧ w2.heap[w0.heap.size]? = some (.mapIter (some r) clk (seen.push eb) clk) ∧ I (seen.push eb) w2) := Lib.hid ⟨by have := hup.1; omega, (hup.2 _ (Nat.le_refl _) (by omega)).trans hin, hI2⟩
        clear hup hI2 hin hbn hsn
        go_wp2_with fail
        go_roundw
        case rel => exact ⟨_, _, HR.out.1, HR.out.2.1, Nat.le_refl _, HR.out.2.2⟩
        case measure =>
          rw [HME.out.2, show w2.iterSeen w0.heap.size = seen.push eb by simp [World.iterSeen, HR.out.2.1]]
          exact HME.out.1
      · obtain ⟨hq1, hq2, _⟩ := hnh
        have HC := Lib.hid hcall
        have HIN := Lib.hid (And.intro hin hsn)
        clear hcall hin hbn hsn
        go_wp2_with (go_at_call 187; refine HC.out.mono ?_; rintro x w2 ⟨rfl, hupd, hup, hI2⟩; have HR : Hid (w0.heap.size < w2.heap.size ∧ w2.heap[w0.heap.size]? = some (.mapIter (some r) clk (seen.push eb) clk) ∧ I (seen.push eb) w2) := Lib.hid ⟨by have := hup.1; have := HIN.out.2; omega, (hup.2 _ (Nat.le_refl _) (by have := HIN.out.2; omega)).trans HIN.out.1, hI2⟩; clear hup hI2)
        go_roundw
        case rel => exact ⟨_, _, HR.out.1, HR.out.2.1, Nat.le_refl _, HR.out.2.2⟩
        case measure =>
          rw [HME.out.2, show w2.iterSeen w0.heap.size = seen.push eb by simp [World.iterSeen, HR.out.2.1]]
          exact HME.out.1
end Go.Gj
