/-
  impl.mapToGo.
-/
import Derived.Test.YtnlndpgbhmkanaaGreatDoorWToGo
import Derived.Test.YtnlndpgbhmkanaaGreatDoorWFitB
namespace Go.Gj
open Go Go.RowKit Go.Proofs

theorem AVals.more {w w' : World} {S S' : Nat → Prop} (hs : Same S w w') (hS : ∀ b, S b → S' b) {es es' : Array MapEntry} (he : ∀ e ∈ es.toList, e ∈ es'.toList) : ∀ (ks : List ByteArray) (vs : List J), AVals w S es ks vs → AVals w' S' es' ks vs
  | _, [] => fun h => h
  | ks, x :: xs => by
    rintro ⟨k, ks', hk, ⟨e, hm, hke, hr⟩, hxs⟩
    exact ⟨k, ks', hk, ⟨e, he e hm, hke, ARep.keep hs hS x _ hr⟩, AVals.more hs hS he ks' xs hxs⟩

theorem AVals.snoc {w : World} {S : Nat → Prop} {es : Array MapEntry} {k : ByteArray} {x : J} (hx : ∃ e ∈ es.toList, e.key = .string k ∧ ARep w S x e.val) : ∀ (ks : List ByteArray) (vs : List J), AVals w S es ks vs → AVals w S es (ks ++ [k]) (vs ++ [x])
  | _, [] => by
    rintro rfl
    exact ⟨k, [], rfl, hx, rfl⟩
  | ks, y :: ys => by
    rintro ⟨k', ks', rfl, h1, h2⟩
    exact ⟨k', ks' ++ [k], rfl, h1, AVals.snoc hx ks' ys h2⟩

theorem size_alloc (w : World) (o : Obj) : (w.alloc o).heap.size = w.heap.size + 1 := Array.size_push ..

/-- A new map, filled up to a place. -/
def MapInv (w : World) (B : Nat) (ks : List ByteArray) (vs : List J) (k : Nat) : Prop :=
  ∃ es clk, w.heap[B]? = some (.map es clk) ∧ MapKept.Stamped es clk ∧ StrKeys es.toList (ks.take k) ∧ AVals w (since (B + 1) w) es (ks.take k) (vs.take k)

theorem MapInv.lt {w : World} {B : Nat} {ks : List ByteArray} {vs : List J} {k : Nat} (h : MapInv w B ks vs k) : B < w.heap.size := by
  obtain ⟨_, _, h, _⟩ := h; exact (Array.getElem?_eq_some_iff.1 h).1
theorem MapInv.below {w w' : World} {B : Nat} {ks : List ByteArray} {vs : List J} {k : Nat} (h : MapInv w B ks vs k) (hb : Below w.heap.size w w') : MapInv w' B ks vs k := by
  have hlt := h.lt
  obtain ⟨es, clk, h, hs, hk, ha⟩ := h
  exact ⟨es, clk, (hb.block B hlt).trans h, hs, hk, AVals.keep (.of_below hb fun _ h => h.2) (fun _ h => ⟨h.1, Nat.lt_of_lt_of_le h.2 hb.size⟩) _ _ _ ha⟩
theorem MapInv.new (w : World) (ks : List ByteArray) (vs : List J) : MapInv (w.alloc (.map #[] 0)) w.heap.size ks vs 0 := by
  refine ⟨#[], 0, ?_, MapKept.stamped_empty 0, by simp [StrKeys], by simp [AVals]⟩
  rw [show (w.alloc (.map #[] 0)).heap = w.heap.push (.map #[] 0) from rfl, Array.getElem?_push_size]
theorem MapInv.step {w : World} {B : Nat} {ks : List ByteArray} {vs : List J} {k : Nat} (h : MapInv w B ks vs k) (hk : k < ks.length) (hv : k < vs.length) (hr : rises ks) {g : Value} (hg : ARep w (since (B + 1) w) vs[k] g) :
    ∃ w', (Instr.mapUpdate 83 (.map (some B)) (.string ks[k]) g).run Tryz.prog w = .ok () w' ∧ Below B w w' ∧ MapInv w' B ks vs (k + 1) := by
  have hlt := h.lt
  obtain ⟨es, clk, h, hs, hkk, ha⟩ := h
  have hf := rises_fresh hr k hk
  refine ⟨_, run_update_new (ks.take k) ks[k] g h hkk hf, below_setMap _ _ _ _ (Nat.le_refl _), _, _, setMap_same _ _ _ _ hlt, MapKept.stamped_push hs fun x hx e => ?_, ?_, ?_⟩
  · have hm : x.key ∈ es.toList.map (·.key) := List.mem_map.2 ⟨x, hx, rfl⟩
    rw [show es.toList.map (·.key) = _ from hkk, e] at hm
    obtain ⟨y, hy, e2⟩ := List.mem_map.1 hm
    cases e2
    exact hf hy
  · rw [List.take_succ_eq_append_getElem hk]
    unfold StrKeys at hkk ⊢
    rw [Array.toList_push, List.map_append, List.map_append, hkk]; rfl
  · rw [List.take_succ_eq_append_getElem hk, List.take_succ_eq_append_getElem hv]
    have hsame : Same (since (B + 1) w) w (setMap w B (es.push { key := .string ks[k], val := g, born := clk }) (clk + 1)) := fun b hb => setMap_other _ _ _ _ _ (by have := hb.1; omega)
    have hS : ∀ b, since (B + 1) w b → since (B + 1) (setMap w B (es.push { key := .string ks[k], val := g, born := clk }) (clk + 1)) b := fun b hb => ⟨hb.1, by rw [setMap_size]; exact hb.2⟩
    exact AVals.snoc ⟨_, by rw [Array.toList_push]; exact List.mem_append_right _ (List.mem_singleton.2 rfl), rfl, ARep.keep hsame hS _ _ hg⟩ _ _
      (AVals.more hsame hS (fun e he => by rw [Array.toList_push]; exact List.mem_append_left _ he) _ _ ha)
theorem MapInv.all {w : World} {B : Nat} {ks : List ByteArray} {vs : List J} (h : MapInv w B ks vs ks.length) (hl : ks.length = vs.length) (hk : ∀ k ∈ ks, k.size ≤ mostLen) : ARep w (since B w) (.obj ks vs) (.iface 83 (.map (some B))) := by
  have hlt := h.lt
  obtain ⟨es, clk, h, hs, hkk, ha⟩ := h
  rw [List.take_length] at hkk
  rw [List.take_length, hl, List.take_length] at ha
  exact ⟨B, es, clk, rfl, ⟨Nat.le_refl _, hlt⟩, h, hs, List.Perm.of_eq hkk, hk, AVals.keep (fun _ _ => rfl) (fun b hb => ⟨Nat.le_trans (Nat.le_succ _) hb.1, hb.2⟩) _ _ _ ha⟩

set_option maxHeartbeats 4000000 in
set_option maxRecDepth 100000 in
theorem mapToGo_ok (x : J) (_hk6 : x.kind = 6) (hx : ∀ y ∈ x.vals, y.ok ∧ ToGoOk y) (hok : x.ok) (w : World) (S : Nat → Prop) (hS : ∀ b, S b → b < w.heap.size) (va : Value) (ha : JRep w S x va) :
    Calls Tryz.prog 76 #[va] w fun e w' => ∃ B, e = .returned (.tuple #[.map (some B), .bool true]) ∧ Below w.heap.size w w' ∧ w.heap.size ≤ B ∧ ARep w' (since w.heap.size w') (.obj x.keys x.vals) (.iface 83 (.map (some B))) := by
  obtain ⟨s1, s2, s3, rfl, _, j1, j2, j3⟩ := ha.parts
  obtain ⟨hkv, hkl, hri, hks⟩ := ok_keys hok
  generalize x.keys = ks at *
  generalize x.vals = vs at *
  obtain ⟨a1, c1, rfl, hn1, _⟩ := j1.at
  obtain ⟨a2, c2, rfl, hn2, h2⟩ := j2.at
  obtain ⟨a3, c3, rfl, hn3, h3⟩ := j3.at
  unfold mostLen at hn1 hn2 hn3
  unfold lim at hkl
  have hne : ((ks.length : Int) != vs.length) = false := by simp [hkv]
  have HKV := Lib.hid hkv
  clear _hk6 hkv
  have hB := below1 w (.cells #[.int .i64 x.kind, .int .i64 x.half, .string x.text, .slice a1 x.list.length c1, .slice a2 ks.length c2, .slice a3 vs.length c3] 26)
  have hmk := run_makeMap83 (w.alloc (.cells #[.int .i64 x.kind, .int .i64 x.half, .string x.text, .slice a1 x.list.length c1, .slice a2 ks.length c2, .slice a3 vs.length c3] 26)) ks.length
  have hO := MapInv.new (w.alloc (.cells #[.int .i64 x.kind, .int .i64 x.half, .string x.text, .slice a1 x.list.length c1, .slice a2 ks.length c2, .slice a3 vs.length c3] 26)) ks vs
  rw [size_alloc w] at hO
  have HO := Lib.hid hO
  clear hO
  have HB := Lib.hid (below1 (w.alloc (.cells #[.int .i64 x.kind, .int .i64 x.half, .string x.text, .slice a1 x.list.length c1, .slice a2 ks.length c2, .slice a3 vs.length c3] 26)) (.map #[] 0))
  have HB0 := Lib.hid hB
  clear hB
  go_enter Tryz.func76, Tryz.ntmps76
  go_wp2_with fail
  have hBx := Box.new w x.kind x.half x.text (.slice a1 x.list.length c1) (.slice a2 ks.length c2) (.slice a3 vs.length c3)
  go_loopw [23] (fun i wr => ∃ k : Nat, k ≤ ks.length ∧ i = .int .i64 k ∧ Below w.heap.size w wr ∧ w.heap.size + 1 ≤ wr.heap.size ∧ Box wr w.heap.size x.kind x.half x.text (.slice a1 x.list.length c1) (.slice a2 ks.length c2) (.slice a3 vs.length c3) ∧ MapInv wr (w.heap.size + 1) ks vs k) (fun i _ => ks.length - (intOf i).toNat)
  case atStart =>
    refine ⟨0, Nat.zero_le _, rfl, HB0.out.trans (HB.out.mono HB0.out.size), ?_, (HB.out.block _ ?_).trans hBx, HO.out⟩
    · rw [size_alloc, size_alloc]; omega
    · rw [size_alloc]; omega
  case round =>
    obtain ⟨k, hk1, rfl, hbel, hsz, hbox, hinv⟩ := hrel
    obtain ⟨bc0, bc1, bc2, bc3, bc4, bc5⟩ := hbox.c
    by_cases hlt : k < ks.length
    · have hltv : k < vs.length := by have := HKV.out; omega
      have hgk : ∃ b o, a2 = some ⟨b, o, none⟩ ∧ ∀ i (hi : i < ks.length), wr.cell? ⟨b, o + i, none⟩ = some (.string ks[i]) := by
        obtain ⟨b, o, rfl, hsb, _⟩ := h2 k hlt
        refine ⟨b, o, rfl, fun i hi => ?_⟩
        obtain ⟨b', o', e, hsb', hc, _⟩ := h2 i hi
        cases e
        rw [hbel.cell (hS b hsb)]; exact hc
      obtain ⟨b2, o2, rfl, hg2⟩ := hgk
      obtain ⟨b1, o1, rfl, hs1, d0, d1, d2, d3, d4, d5, g0, g1, g2, g3, g4, g5, hr1⟩ := h3 k hltv
      have G := fun o => hbel.cell (p := ⟨b1, o, none⟩) (hS b1 hs1)
      rw [← G] at g0 g1 g2 g3 g4 g5
      clear G
      have hkk := hg2 k hlt
      have hC : Calls Tryz.prog 49 #[.agg #[d0, d1, d2, d3, d4, d5]] wr fun e w' => ∃ g, e = .returned (.tuple #[g, .bool true]) ∧ Below wr.heap.size wr w' ∧ ARep w' (since wr.heap.size w') vs[k] g :=
        (hx vs[k] (List.getElem_mem hltv)).2 _ S _ (hx vs[k] (List.getElem_mem hltv)).1 (fun b hb => Nat.lt_of_lt_of_le (hS b hb) hbel.size) (hr1.below hbel hS)
      have HC := Lib.hid hC
      have HI := Lib.hid hinv
      have HBe := Lib.hid hbel
      have HBx := Lib.hid hbox
      have HS := Lib.hid hsz
      have HS2 := Lib.hid (Nat.succ_le_of_lt hinv.lt)
      clear hC hinv hbel hbox hsz hr1
      go_upto_region 7 with fail
      by_cases hk0 : k = 0
      · have hgt : (0 < k) = False := by simp [hk0]
        have hgt2 : ((0 : Int) < (k : Int)) = False := by simp [hk0]
        clear hk0
        go_upto_region 9 with fail
        go_upto_region 12 with (go_at_call 49; refine HC.out.mono ?_; rintro e w' ⟨g, rfl, hb', hg⟩)
        obtain ⟨w2, hrun, hb2, hi2⟩ := (HI.out.below hb').step hlt hltv hri (ARep.mono hg fun b hb => ⟨Nat.le_trans HS2.out hb.1, hb.2⟩)
        have hsz2 := HBx.out
        have HRel := Lib.hid (show k + 1 ≤ ks.length ∧ Below w.heap.size w w2 ∧ w.heap.size + 1 ≤ w2.heap.size ∧ Box w2 w.heap.size x.kind x.half x.text (.slice a1 x.list.length c1) (.slice (some ⟨b2, o2, none⟩) ks.length c2) (.slice (some ⟨b1, o1, none⟩) vs.length c3) ∧ MapInv w2 (w.heap.size + 1) ks vs (k + 1) from
          ⟨hlt, (HBe.out.trans (hb'.mono (Nat.le_trans (Nat.le_succ _) HS.out))).trans (hb2.mono (Nat.le_succ _)), Nat.le_trans (Nat.le_trans HS.out hb'.size) hb2.size, (hb2.block _ (Nat.lt_succ_self _)).trans ((hb'.block _ HS.out).trans HBx.out), hi2⟩)
        clear hg hb2 hi2 hb'
        go_wp2_with fail
        go_roundw
        case rel => exact ⟨k + 1, HRel.out.1, by go_num, HRel.out.2⟩
        case measure => simp [intOf]; omega
      · obtain ⟨m, rfl⟩ : ∃ m, k = m + 1 := ⟨k - 1, by omega⟩
        clear hk0
        have hkm := hg2 m (by omega)
        have hlo : Op.bytesLess ks[m].toList ks[m + 1].toList = true := rises_lt hri m (m + 1) (by omega) hlt
        go_upto_region 9 with fail
        go_upto_region 12 with (go_at_call 49; refine HC.out.mono ?_; rintro e w' ⟨g, rfl, hb', hg⟩)
        obtain ⟨w2, hrun, hb2, hi2⟩ := (HI.out.below hb').step hlt hltv hri (ARep.mono hg fun b hb => ⟨Nat.le_trans HS2.out hb.1, hb.2⟩)
        have hsz2 := HBx.out
        have HRel := Lib.hid (show (m + 1) + 1 ≤ ks.length ∧ Below w.heap.size w w2 ∧ w.heap.size + 1 ≤ w2.heap.size ∧ Box w2 w.heap.size x.kind x.half x.text (.slice a1 x.list.length c1) (.slice (some ⟨b2, o2, none⟩) ks.length c2) (.slice (some ⟨b1, o1, none⟩) vs.length c3) ∧ MapInv w2 (w.heap.size + 1) ks vs ((m + 1) + 1) from
          ⟨hlt, (HBe.out.trans (hb'.mono (Nat.le_trans (Nat.le_succ _) HS.out))).trans (hb2.mono (Nat.le_succ _)), Nat.le_trans (Nat.le_trans HS.out hb'.size) hb2.size, (hb2.block _ (Nat.lt_succ_self _)).trans ((hb'.block _ HS.out).trans HBx.out), hi2⟩)
        clear hg hb2 hi2 hb'
        go_wp2_with fail
        go_roundw
        case rel => exact ⟨(m + 1) + 1, HRel.out.1, by go_num, HRel.out.2⟩
        case measure => simp [intOf]; omega
    · have he : k = ks.length := by omega
      have HI := Lib.hid (he ▸ hinv)
      have HBe := Lib.hid hbel
      clear hinv he hbel
      go_wp2_with fail
      refine bodyPost_ret (v := .tuple #[.map (some (w.heap.size + 1)), .bool true]) (by simp [results, Tryz.results76, go_sem]) rfl ⟨_, rfl, HBe.out, Nat.le_succ _, ?_⟩
      exact ARep.mono (HI.out.all HKV.out fun k hk => by have := hks k hk; unfold lim at this; unfold mostLen; omega) fun b hb => ⟨Nat.le_trans (Nat.le_succ _) hb.1, hb.2⟩
end Go.Gj
