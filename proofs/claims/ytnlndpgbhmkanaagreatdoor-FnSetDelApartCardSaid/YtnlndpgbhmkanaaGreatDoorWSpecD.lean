/-
  spec.Index: an object at a text, an array at a number; all together.
-/
import Derived.Test.YtnlndpgbhmkanaaGreatDoorWSpecB
namespace Go.Gj
set_option linter.unusedSimpArgs false
set_option linter.unusedVariables false
set_option linter.unnecessarySimpa false
open Go Go.RowKit Go.Proofs

set_option maxHeartbeats 400000 in
set_option maxRecDepth 100000 in
theorem sidx_obj (ks : List ByteArray) (vs : List J) (s : ByteArray) (hri : rises ks) (hl : ks.length ≤ lim) (hkv : ks.length = vs.length) (w : World) (S : Nat → Prop) (va ka : Value) (hS : ∀ b, S b → b < w.heap.size) (hv : JRep w S (.obj ks vs) va) (hk : JRep w S (.str s) ka) :
    Calls Tryz.prog 48 #[va, ka] w fun e w' => ∃ c0 c1 c2 c3 c4 c5, e = .returned (.tuple #[.agg #[c0, c1, c2, c3, c4, c5], .int .i64 0]) ∧ Below w.heap.size w w' ∧ JRep w' S (getK ks vs s) (.agg #[c0, c1, c2, c3, c4, c5]) := by
  have hv0 := hv
  obtain ⟨s1, s2, s3, rfl, _, j1, j2, j3⟩ := hv.parts
  obtain ⟨a1, n1, rfl, _⟩ := j1.at
  obtain ⟨a2, n2, rfl, _⟩ := j2.at
  obtain ⟨a3, n3, rfl, _⟩ := j3.at
  obtain ⟨r1, r2, r3, rfl, _, i1, i2, i3⟩ := hk.parts
  obtain ⟨b1, m1, rfl, _⟩ := i1.at
  obtain ⟨b2, m2, rfl, _⟩ := i2.at
  obtain ⟨b3, m3, rfl, _⟩ := i3.at
  simp only [J.kind, J.half, J.text, J.list, J.keys, J.vals, List.length_nil] at *
  have hB := below3 w (.cells #[.int .i64 6, .int .i64 0, .string ⟨#[]⟩, .slice a1 0 n1, .slice a2 ks.length n2, .slice a3 vs.length n3] 26) (.cells #[.int .i64 4, .int .i64 0, .string s, .slice b1 0 m1, .slice b2 0 m2, .slice b3 0 m3] 26) (.cells #[.int .i64 0, .int .i64 0, .string ⟨#[]⟩, .slice none 0 0, .slice none 0 0, .slice none 0 0] 26)
  have HC := Lib.hid (Get_ok ks vs hri hl hkv s _ S _ (lt_below hB hS) (hv0.below hB hS))
  have HY := Lib.hid (box_third w (.cells #[.int .i64 6, .int .i64 0, .string ⟨#[]⟩, .slice a1 0 n1, .slice a2 ks.length n2, .slice a3 vs.length n3] 26) (.cells #[.int .i64 4, .int .i64 0, .string s, .slice b1 0 m1, .slice b2 0 m2, .slice b3 0 m3] 26) 0 0 ⟨#[]⟩ (.slice none 0 0) (.slice none 0 0) (.slice none 0 0))
  have HB := Lib.hid hB
  have HS := Lib.hid (fun b (hb : S b) => hS b hb)
  clear hv0 hv hk j1 j2 j3 i1 i2 i3 hri hl hkv hS hB
  go_enter Tryz.func48, Tryz.ntmps48
  go_wp2_with (go_at_call 74; refine HC.out.mono ?_; rintro e w' ⟨c0, c1, c2, c3, c4, c5, rfl, hb', hj⟩; obtain ⟨rk, rh, rt, d1, l1, e1, d2, l2, e2, d3, l3, e3, rfl, rfl, rfl, rfl, rfl, rfl⟩ := hj.shape6; have hby : Box w' (w.heap.size + 1 + 1) 0 0 ⟨#[]⟩ (.slice none 0 0) (.slice none 0 0) (.slice none 0 0) := (hb'.block _ (by simp [World.size_alloc]; try omega)).trans HY.out; obtain ⟨y0, y1, y2, y3, y4, y5⟩ := Box.c hby; have yf := Box.f hby; have HBB := Lib.hid hb'; have HJ := Lib.hid hj; have HBY := Lib.hid hby; clear hb' hj hby)
  have HZZ := Lib.hid (set6_box HBY.out (k' := rk) (h' := rh) (t' := rt) (r1 := .slice d1 l1 e1) (r2 := .slice d2 l2 e2) (r3 := .slice d3 l3 e3)).c
  refine bodyPost_ret (w := set6 w' (w.heap.size + 1 + 1) (.int .i64 rk) (.int .i64 rh) (.string rt) (.slice d1 l1 e1) (.slice d2 l2 e2) (.slice d3 l3 e3)) (v := .tuple #[.agg #[.int .i64 rk, .int .i64 rh, .string rt, .slice d1 l1 e1, .slice d2 l2 e2, .slice d3 l3 e3], .int .i64 0]) ?_ rfl ?_
  · obtain ⟨y0, y1, y2, y3, y4, y5⟩ := HZZ.out
    simp [results, Tryz.results48, go_sem, y0, y1, y2, y3, y4, y5]
  · have hb1 : Below w.heap.size w w' := HB.out.trans (HBB.out.mono HB.out.size)
    refine ⟨_, _, _, _, _, _, rfl, hb1.trans (below_set6 (by omega) _ _ _ _ _ _), HJ.out.keep (fun b hb => set6_other _ _ _ _ _ _ b (by have := HS.out b hb; omega)) (fun _ h => h)⟩

set_option maxHeartbeats 400000 in
set_option maxRecDepth 100000 in
theorem sidx_arr (l : List J) (h : Int) (hk0 : 0 ≤ h ∧ h ≤ 200 ∧ h % 2 = 0) (hl : l.length ≤ lim) (w : World) (S : Nat → Prop) (va ka : Value) (hS : ∀ b, S b → b < w.heap.size) (hv : JRep w S (.arr l) va) (hk : JRep w S (.num h) ka) :
    Calls Tryz.prog 48 #[va, ka] w fun e w' => ∃ c0 c1 c2 c3 c4 c5, e = .returned (.tuple #[.agg #[c0, c1, c2, c3, c4, c5], .int .i64 0]) ∧ Below w.heap.size w w' ∧ JRep w' S (l.getD (h / 2).toNat .null) (.agg #[c0, c1, c2, c3, c4, c5]) := by
  obtain ⟨s1, s2, s3, rfl, _, j1, j2, j3⟩ := hv.parts
  obtain ⟨a1, n1, rfl, _, hat⟩ := j1.at
  obtain ⟨a2, n2, rfl, _⟩ := j2.at
  obtain ⟨a3, n3, rfl, _⟩ := j3.at
  have hk1 := hk
  obtain ⟨r1, r2, r3, rfl, _, i1, i2, i3⟩ := hk.parts
  obtain ⟨b1, m1, rfl, _⟩ := i1.at
  obtain ⟨b2, m2, rfl, _⟩ := i2.at
  obtain ⟨b3, m3, rfl, _⟩ := i3.at
  simp only [J.kind, J.half, J.text, J.list, J.keys, J.vals, List.length_nil] at *
  obtain ⟨n, hn⟩ : ∃ n : Nat, h / 2 = n := ⟨(h / 2).toNat, by omega⟩
  have hB := below3 w (.cells #[.int .i64 5, .int .i64 0, .string ⟨#[]⟩, .slice a1 l.length n1, .slice a2 0 n2, .slice a3 0 n3] 26) (.cells #[.int .i64 3, .int .i64 h, .string ⟨#[]⟩, .slice b1 0 m1, .slice b2 0 m2, .slice b3 0 m3] 26) (.cells #[.int .i64 0, .int .i64 0, .string ⟨#[]⟩, .slice none 0 0, .slice none 0 0, .slice none 0 0] 26)
  have hC := Whole_even h hk0.2.2 _ S _ (hk1.below hB hS)
  rw [hn] at hC
  have HC := Lib.hid hC
  rw [hn, Int.toNat_natCast]
  have HX := Lib.hid (Box.new w 5 0 ⟨#[]⟩ (.slice a1 l.length n1) (.slice a2 0 n2) (.slice a3 0 n3))
  have HY := Lib.hid (box_third w (.cells #[.int .i64 5, .int .i64 0, .string ⟨#[]⟩, .slice a1 l.length n1, .slice a2 0 n2, .slice a3 0 n3] 26) (.cells #[.int .i64 3, .int .i64 h, .string ⟨#[]⟩, .slice b1 0 m1, .slice b2 0 m2, .slice b3 0 m3] 26) 0 0 ⟨#[]⟩ (.slice none 0 0) (.slice none 0 0) (.slice none 0 0))
  have HB := Lib.hid hB
  have HS := Lib.hid (fun b (hb : S b) => hS b hb)
  have HAT := Lib.hid hat
  have hn2 : n ≤ 100 := by omega
  have hd0 : decide ((n : Int) < 0) = false := by simp
  unfold lim at hl
  clear hk1 hv hk j1 j2 j3 i1 i2 i3 hS hB hat hC hn hk0
  by_cases hlt : n < l.length
  · obtain ⟨b, o, rfl, hsb, d0, d1, d2, d3, d4, d5, g0, g1, g2, g3, g4, g5, hj⟩ := HAT.out n hlt
    have HJ : Hid (JRep w S (l.getD n .null) (.agg #[d0, d1, d2, d3, d4, d5])) := by rw [List.getD_eq_getElem?_getD, List.getElem?_eq_getElem hlt]; exact Lib.hid hj
    obtain ⟨rk, rh, rt, e1, l1, f1, e2, l2, f2, e3, l3, f3, rfl, rfl, rfl, rfl, rfl, rfl⟩ := (show JRep w S l[n] _ from hj).shape6
    have HSB := Lib.hid (HS.out b hsb)
    have hge : decide ((l.length : Int) ≤ n) = false := by simp; omega
    clear hj
    go_enter Tryz.func48, Tryz.ntmps48
    go_wp2_with (go_at_call 41; refine HC.out.mono ?_; rintro e w' ⟨rfl, hb'⟩; have hbx : Box w' w.heap.size 5 0 ⟨#[]⟩ (.slice (some ⟨b, o, none⟩) l.length n1) (.slice a2 0 n2) (.slice a3 0 n3) := (hb'.block _ (by simp [World.size_alloc]; try omega)).trans ((Below.heap_alloc _ _ _ (by simp [World.size_alloc]; try omega)).trans ((Below.heap_alloc _ _ _ (by simp [World.size_alloc]; try omega)).trans HX.out)); have hby : Box w' (w.heap.size + 1 + 1) 0 0 ⟨#[]⟩ (.slice none 0 0) (.slice none 0 0) (.slice none 0 0) := (hb'.block _ (by simp [World.size_alloc]; try omega)).trans HY.out; obtain ⟨x0, x1, x2, x3, x4, x5⟩ := Box.c hbx; obtain ⟨y0, y1, y2, y3, y4, y5⟩ := Box.c hby; have yf := Box.f hby; have G := fun o => (HB.out.trans (hb'.mono HB.out.size)).cell (p := ⟨b, o, none⟩) HSB.out; rw [← G] at g0 g1 g2 g3 g4 g5; have HBB := Lib.hid hb'; have HBY := Lib.hid hby; clear hb' hbx hby G)
    have HZZ := Lib.hid (set6_box HBY.out (k' := rk) (h' := rh) (t' := rt) (r1 := .slice e1 l1 f1) (r2 := .slice e2 l2 f2) (r3 := .slice e3 l3 f3)).c
    refine bodyPost_ret (w := set6 w' (w.heap.size + 1 + 1) (.int .i64 rk) (.int .i64 rh) (.string rt) (.slice e1 l1 f1) (.slice e2 l2 f2) (.slice e3 l3 f3)) (v := .tuple #[.agg #[.int .i64 rk, .int .i64 rh, .string rt, .slice e1 l1 f1, .slice e2 l2 f2, .slice e3 l3 f3], .int .i64 0]) ?_ rfl ?_
    · obtain ⟨y0, y1, y2, y3, y4, y5⟩ := HZZ.out
      simp [results, Tryz.results48, go_sem, y0, y1, y2, y3, y4, y5]
    · have hbw : Below w.heap.size w (set6 w' (w.heap.size + 1 + 1) (.int .i64 rk) (.int .i64 rh) (.string rt) (.slice e1 l1 f1) (.slice e2 l2 f2) (.slice e3 l3 f3)) := (HB.out.trans (HBB.out.mono HB.out.size)).trans (below_set6 (by omega) _ _ _ _ _ _)
      exact ⟨_, _, _, _, _, _, rfl, hbw, HJ.out.below hbw HS.out⟩
  · have HJ : Hid (l.getD n .null = .null) := by rw [List.getD_eq_getElem?_getD, List.getElem?_eq_none (by omega)]; exact Lib.hid rfl
    have hge : decide ((l.length : Int) ≤ n) = true := by simp; omega
    go_enter Tryz.func48, Tryz.ntmps48
    go_wp2_with (go_at_call 41; refine HC.out.mono ?_; rintro e w' ⟨rfl, hb'⟩; have hbx : Box w' w.heap.size 5 0 ⟨#[]⟩ (.slice a1 l.length n1) (.slice a2 0 n2) (.slice a3 0 n3) := (hb'.block _ (by simp [World.size_alloc]; try omega)).trans ((Below.heap_alloc _ _ _ (by simp [World.size_alloc]; try omega)).trans ((Below.heap_alloc _ _ _ (by simp [World.size_alloc]; try omega)).trans HX.out)); have hby : Box w' (w.heap.size + 1 + 1) 0 0 ⟨#[]⟩ (.slice none 0 0) (.slice none 0 0) (.slice none 0 0) := (hb'.block _ (by simp [World.size_alloc]; try omega)).trans HY.out; obtain ⟨x0, x1, x2, x3, x4, x5⟩ := Box.c hbx; obtain ⟨y0, y1, y2, y3, y4, y5⟩ := Box.c hby; have yf := Box.f hby; have HBB := Lib.hid hb'; have HBY := Lib.hid hby; clear hb' hbx hby)
    have HZZ := Lib.hid (set6_box HBY.out (k' := 0) (h' := 0) (t' := ⟨#[]⟩) (r1 := .slice none 0 0) (r2 := .slice none 0 0) (r3 := .slice none 0 0)).c
    refine bodyPost_ret (w := set6 w' (w.heap.size + 1 + 1) (.int .i64 0) (.int .i64 0) (.string ⟨#[]⟩) (.slice none 0 0) (.slice none 0 0) (.slice none 0 0)) (v := .tuple #[zero6, .int .i64 0]) ?_ rfl ?_
    · obtain ⟨y0, y1, y2, y3, y4, y5⟩ := HZZ.out
      simp [zero6, results, Tryz.results48, go_sem, y0, y1, y2, y3, y4, y5]
    · rw [HJ.out]
      exact ⟨_, _, _, _, _, _, rfl, (HB.out.trans (HBB.out.mono HB.out.size)).trans (below_set6 (by omega) _ _ _ _ _ _), jrep_null _ _⟩
end Go.Gj

/-
  spec.Index whole; spec.GetPath.
-/
namespace Go.Gj
set_option linter.unusedSimpArgs false
set_option linter.unusedVariables false
set_option linter.unnecessarySimpa false
open Go Go.RowKit Go.Proofs

theorem JRep.cells6 {w : World} {S : Nat → Prop} {x : J} {c0 c1 c2 c3 c4 c5 : Value} (h : JRep w S x (.agg #[c0, c1, c2, c3, c4, c5])) :
    ∃ a1 m1 a2 m2 a3 m3, c0 = .int .i64 x.kind ∧ c1 = .int .i64 x.half ∧ c2 = .string x.text ∧ c3 = .slice a1 x.list.length m1 ∧ c4 = .slice a2 x.keys.length m2 ∧ c5 = .slice a3 x.vals.length m3 := by
  obtain ⟨s1, s2, s3, hagg, _, j1, j2, j3⟩ := h.parts
  obtain ⟨aa1, ac1, rfl, _⟩ := j1.at
  obtain ⟨aa2, ac2, rfl, _⟩ := j2.at
  obtain ⟨aa3, ac3, rfl, _⟩ := j3.at
  obtain ⟨rfl, rfl, rfl, rfl, rfl, rfl⟩ : c0 = .int .i64 x.kind ∧ c1 = .int .i64 x.half ∧ c2 = .string x.text ∧ c3 = .slice aa1 x.list.length ac1 ∧ c4 = .slice aa2 x.keys.length ac2 ∧ c5 = .slice aa3 x.vals.length ac3 := by simpa using hagg
  exact ⟨_, _, _, _, _, _, rfl, rfl, rfl, rfl, rfl, rfl⟩
theorem JRep.shapeA {w : World} {S : Nat → Prop} {x : J} {v : Value} (h : JRep w S x v) :
    ∃ a1 m1 a2 m2 a3 m3, v = .agg #[.int .i64 x.kind, .int .i64 x.half, .string x.text, .slice a1 x.list.length m1, .slice a2 x.keys.length m2, .slice a3 x.vals.length m3] := by
  obtain ⟨s1, s2, s3, rfl, _⟩ := h.parts
  obtain ⟨a1, m1, a2, m2, a3, m3, _, _, _, rfl, rfl, rfl⟩ := h.cells6
  exact ⟨_, _, _, _, _, _, rfl⟩

/-- What spec.Index says. -/
def IdxSays (v k x : J) (how : Int) : Prop :=
  (idxJ v k = some x ∧ how = 0 ∧ strange v k = false) ∨ (idxJ v k = none ∧ strange v k = true ∧ how = 2) ∨ (idxJ v k = none ∧ strange v k = false ∧ how = 1)

theorem SpecIndex_ok (v k : J) (hv : v.ok) (hkk : keyOk k) (w : World) (S : Nat → Prop) (va ka : Value) (hS : ∀ b, S b → b < w.heap.size) (ha : JRep w S v va) (hk : JRep w S k ka) :
    Calls Tryz.prog 48 #[va, ka] w fun e w' => ∃ c0 c1 c2 c3 c4 c5 how x, e = .returned (.tuple #[.agg #[c0, c1, c2, c3, c4, c5], .int .i64 how]) ∧ Below w.heap.size w w' ∧ JRep w' S x (.agg #[c0, c1, c2, c3, c4, c5]) ∧ IdxSays v k x how ∧ 0 ≤ how ∧ how ≤ 2 := by
  have zero : ∀ how x, x = J.null → IdxSays v k x how → 0 ≤ how → how ≤ 2 → ∀ (e : Ending) (w' : World), (e = .returned (.tuple #[zero6, .int .i64 how]) ∧ Below w.heap.size w w') → ∃ c0 c1 c2 c3 c4 c5 how x, e = .returned (.tuple #[.agg #[c0, c1, c2, c3, c4, c5], .int .i64 how]) ∧ Below w.heap.size w w' ∧ JRep w' S x (.agg #[c0, c1, c2, c3, c4, c5]) ∧ IdxSays v k x how ∧ 0 ≤ how ∧ how ≤ 2 := by
    rintro how x rfl h h0 h2 e w' ⟨rfl, hb⟩
    exact ⟨_, _, _, _, _, _, how, .null, rfl, hb, jrep_null _ _, h, h0, h2⟩
  cases k with
  | null => exact hkk.elim
  | bool b => exact hkk.elim
  | arr l => exact hkk.elim
  | obj ks vs => exact hkk.elim
  | str s =>
    obtain ⟨b1, m1, b2, m2, b3, m3, rfl⟩ := hk.shapeA
    cases v with
    | obj ks vs =>
      refine (sidx_obj ks vs s hv.2.2.1 hv.2.1 hv.1 w S va _ hS ha hk).mono ?_
      rintro e w' ⟨c0, c1, c2, c3, c4, c5, rfl, hb, hj⟩
      exact ⟨_, _, _, _, _, _, 0, _, rfl, hb, hj, .inl ⟨rfl, rfl, rfl⟩, by decide, by decide⟩
    | null => obtain ⟨a1, n1, a2, n2, a3, n3, rfl⟩ := ha.shapeA; exact Calls.mono (sidx_0_4 _ _ _ _ _ _ _ _ _ _ _ _ _ _ _ _ _ _ _ _ _ _ w) (zero 0 .null rfl (.inl ⟨rfl, rfl, rfl⟩) (by decide) (by decide))
    | bool b => obtain ⟨a1, n1, a2, n2, a3, n3, rfl⟩ := ha.shapeA; cases b; exact Calls.mono (sidx_1_4 _ _ _ _ _ _ _ _ _ _ _ _ _ _ _ _ _ _ _ _ _ _ w) (zero 1 .null rfl (.inr (.inr ⟨rfl, rfl, rfl⟩)) (by decide) (by decide)); exact Calls.mono (sidx_2_4 _ _ _ _ _ _ _ _ _ _ _ _ _ _ _ _ _ _ _ _ _ _ w) (zero 1 .null rfl (.inr (.inr ⟨rfl, rfl, rfl⟩)) (by decide) (by decide))
    | num n => obtain ⟨a1, n1, a2, n2, a3, n3, rfl⟩ := ha.shapeA; exact Calls.mono (sidx_3_4 _ _ _ _ _ _ _ _ _ _ _ _ _ _ _ _ _ _ _ _ _ _ w) (zero 1 .null rfl (.inr (.inr ⟨rfl, rfl, rfl⟩)) (by decide) (by decide))
    | str t => obtain ⟨a1, n1, a2, n2, a3, n3, rfl⟩ := ha.shapeA; exact Calls.mono (sidx_4_4 _ _ _ _ _ _ _ _ _ _ _ _ _ _ _ _ _ _ _ _ _ _ w) (zero 1 .null rfl (.inr (.inr ⟨rfl, rfl, rfl⟩)) (by decide) (by decide))
    | arr l => obtain ⟨a1, n1, a2, n2, a3, n3, rfl⟩ := ha.shapeA; exact Calls.mono (sidx_5_4 _ _ _ _ _ _ _ _ _ _ _ _ _ _ _ _ _ _ _ _ _ _ w) (zero 1 .null rfl (.inr (.inr ⟨rfl, rfl, rfl⟩)) (by decide) (by decide))
  | num h =>
    cases v with
    | arr l =>
      refine (sidx_arr l h hkk hv.1 w S va ka hS ha hk).mono ?_
      rintro e w' ⟨c0, c1, c2, c3, c4, c5, rfl, hb, hj⟩
      exact ⟨_, _, _, _, _, _, 0, _, rfl, hb, hj, .inl ⟨rfl, rfl, rfl⟩, by decide, by decide⟩
    | null => obtain ⟨b1, m1, b2, m2, b3, m3, rfl⟩ := hk.shapeA; obtain ⟨a1, n1, a2, n2, a3, n3, rfl⟩ := ha.shapeA; exact Calls.mono (sidx_0_3 _ _ _ _ _ _ _ _ _ _ _ _ _ _ _ _ _ _ _ _ _ _ w) (zero 0 .null rfl (.inl ⟨rfl, rfl, rfl⟩) (by decide) (by decide))
    | bool b => obtain ⟨b1, m1, b2, m2, b3, m3, rfl⟩ := hk.shapeA; obtain ⟨a1, n1, a2, n2, a3, n3, rfl⟩ := ha.shapeA; cases b; exact Calls.mono (sidx_1_3 _ _ _ _ _ _ _ _ _ _ _ _ _ _ _ _ _ _ _ _ _ _ w) (zero 1 .null rfl (.inr (.inr ⟨rfl, rfl, rfl⟩)) (by decide) (by decide)); exact Calls.mono (sidx_2_3 _ _ _ _ _ _ _ _ _ _ _ _ _ _ _ _ _ _ _ _ _ _ w) (zero 1 .null rfl (.inr (.inr ⟨rfl, rfl, rfl⟩)) (by decide) (by decide))
    | num n => obtain ⟨b1, m1, b2, m2, b3, m3, rfl⟩ := hk.shapeA; obtain ⟨a1, n1, a2, n2, a3, n3, rfl⟩ := ha.shapeA; exact Calls.mono (sidx_3_3 _ _ _ _ _ _ _ _ _ _ _ _ _ _ _ _ _ _ _ _ _ _ w) (zero 1 .null rfl (.inr (.inr ⟨rfl, rfl, rfl⟩)) (by decide) (by decide))
    | str t => obtain ⟨b1, m1, b2, m2, b3, m3, rfl⟩ := hk.shapeA; obtain ⟨a1, n1, a2, n2, a3, n3, rfl⟩ := ha.shapeA; exact Calls.mono (sidx_4_3 _ _ _ _ _ _ _ _ _ _ _ _ _ _ _ _ _ _ _ _ _ _ w) (zero 2 .null rfl (.inr (.inl ⟨rfl, rfl, rfl⟩)) (by decide) (by decide))
    | obj ks vs => obtain ⟨b1, m1, b2, m2, b3, m3, rfl⟩ := hk.shapeA; obtain ⟨a1, n1, a2, n2, a3, n3, rfl⟩ := ha.shapeA; exact Calls.mono (sidx_6_3 _ _ _ _ _ _ _ _ _ _ _ _ _ _ _ _ _ _ _ _ _ _ w) (zero 1 .null rfl (.inr (.inr ⟨rfl, rfl, rfl⟩)) (by decide) (by decide))
end Go.Gj
