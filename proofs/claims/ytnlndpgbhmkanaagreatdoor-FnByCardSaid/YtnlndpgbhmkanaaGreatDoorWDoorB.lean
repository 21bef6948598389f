/-
  Doors of two values: impl's functions that turn two records into values of any, call one function and turn its answer back. (Printed by wip/gen_door.py.)
-/
import Derived.Test.YtnlndpgbhmkanaaGreatDoorWAns
namespace Go.Gj
open Go Go.RowKit Go.Proofs

set_option maxHeartbeats 2000000 in
set_option maxRecDepth 100000 in
theorem SortBy_door (x y : J) (hx : x.ok) (hy : y.ok) (a : Option J) (hZ : ∀ (w1 : World) (g1 g2 : Value), ARep w1 (allB w1) x g1 → ARep w1 (allB w1) y g2 → Calls Tryz.prog 54 #[g1, g2] w1 (AnyGives w1 a)) (w : World) (S : Nat → Prop) (hS : ∀ b, S b → b < w.heap.size) (va vb : Value) (ha : JRep w S x va) (hb : JRep w S y vb) :
    Calls Tryz.prog 20 #[va, vb] w (AnsRes w a) := by
  obtain ⟨s1, s2, s3, rfl, _⟩ := ha.parts
  obtain ⟨r1, r2, r3, rfl, _⟩ := hb.parts
  have hB := below3 w (.cells #[.int .i64 x.kind, .int .i64 x.half, .string x.text, s1, s2, s3] 26) (.cells #[.int .i64 y.kind, .int .i64 y.half, .string y.text, r1, r2, r3] 26) (.cells #[.int .i64 0, .int .i64 0, .string ⟨#[]⟩, .slice none 0 0, .slice none 0 0, .slice none 0 0, .int .i64 0] 35)
  have H1 := Lib.hid (toGo_ok x _ S _ hx (lt_below hB hS) (ha.below hB hS))
  have H2 := Lib.hid (fun w' (hb' : Below (((w.alloc (.cells #[.int .i64 x.kind, .int .i64 x.half, .string x.text, s1, s2, s3] 26)).alloc (.cells #[.int .i64 y.kind, .int .i64 y.half, .string y.text, r1, r2, r3] 26)).alloc (.cells #[.int .i64 0, .int .i64 0, .string ⟨#[]⟩, .slice none 0 0, .slice none 0 0, .slice none 0 0, .int .i64 0] 35)).heap.size (((w.alloc (.cells #[.int .i64 x.kind, .int .i64 x.half, .string x.text, s1, s2, s3] 26)).alloc (.cells #[.int .i64 y.kind, .int .i64 y.half, .string y.text, r1, r2, r3] 26)).alloc (.cells #[.int .i64 0, .int .i64 0, .string ⟨#[]⟩, .slice none 0 0, .slice none 0 0, .slice none 0 0, .int .i64 0] 35)) w') => toGo_ok y w' S _ hy (lt_below (hB.trans (hb'.mono hB.size)) hS) (hb.below (hB.trans (hb'.mono hB.size)) hS))
  have hbb : Box (((w.alloc (.cells #[.int .i64 x.kind, .int .i64 x.half, .string x.text, s1, s2, s3] 26)).alloc (.cells #[.int .i64 y.kind, .int .i64 y.half, .string y.text, r1, r2, r3] 26)).alloc (.cells #[.int .i64 0, .int .i64 0, .string ⟨#[]⟩, .slice none 0 0, .slice none 0 0, .slice none 0 0, .int .i64 0] 35)) (w.heap.size + 1) y.kind y.half y.text r1 r2 r3 := (Below.heap_alloc _ _ _ (by rw [size_alloc, size_alloc]; omega)).trans (by have := Box.new (w.alloc (.cells #[.int .i64 x.kind, .int .i64 x.half, .string x.text, s1, s2, s3] 26)) y.kind y.half y.text r1 r2 r3; rw [size_alloc] at this; exact this)
  have hrr : Box7 (((w.alloc (.cells #[.int .i64 x.kind, .int .i64 x.half, .string x.text, s1, s2, s3] 26)).alloc (.cells #[.int .i64 y.kind, .int .i64 y.half, .string y.text, r1, r2, r3] 26)).alloc (.cells #[.int .i64 0, .int .i64 0, .string ⟨#[]⟩, .slice none 0 0, .slice none 0 0, .slice none 0 0, .int .i64 0] 35)) (w.heap.size + 1 + 1) 0 0 ⟨#[]⟩ (.slice none 0 0) (.slice none 0 0) (.slice none 0 0) 0 := by have := Box7.new ((w.alloc (.cells #[.int .i64 x.kind, .int .i64 x.half, .string x.text, s1, s2, s3] 26)).alloc (.cells #[.int .i64 y.kind, .int .i64 y.half, .string y.text, r1, r2, r3] 26)) 0 0 ⟨#[]⟩ (.slice none 0 0) (.slice none 0 0) (.slice none 0 0) 0; rw [size_alloc, size_alloc] at this; exact this
  simp only [size_alloc] at H1 H2
  have HBB := Lib.hid hbb
  have HRR := Lib.hid hrr
  have HB := Lib.hid hB
  have HZ := Lib.hid hZ
  generalize x.kind = xk, x.half = xh, x.text = xt, y.kind = yk, y.half = yh, y.text = yt at *
  clear hbb hrr hB ha hb hZ hx hy
  go_enter Tryz.func20, Tryz.ntmps20
  go_upto_region 1 with fail
  go_upto_region 2 with (go_at_call 49; refine H1.out.mono ?_; rintro e w1 ⟨g1, rfl, hb1, hg1⟩)
  have hbb1 : Box w1 (w.heap.size + 1) yk yh yt r1 r2 r3 := (hb1.block _ (by omega)).trans HBB.out
  obtain ⟨x0, x1, x2, x3, x4, x5⟩ := hbb1.c
  have HB1 := Lib.hid hb1
  have HG1 := Lib.hid hg1
  clear hbb1 hb1 hg1
  go_upto_region 3 with (go_at_call 49; refine (H2.out w1 HB1.out).mono ?_; rintro e w2 ⟨g2, rfl, hb2, hg2⟩)
  have HZ2 := Lib.hid (HZ.out w2 g1 g2 ((HG1.out.below hb2 (fun _ h => h.2)).mono (fun b h => Nat.lt_of_lt_of_le h.2 hb2.size)) (hg2.mono (fun b h => h.2)))
  have HB2 := Lib.hid hb2
  clear hb2 hg2
  go_upto_region 5 with fail
  go_wp2_with (first
    | (go_at_call 54; refine HZ2.out.mono ?_; rintro e w4 ⟨g3, rfl, hb4, ha4⟩; have HF := Lib.hid (result_any a g3 w4 ha4); have HB4 := Lib.hid hb4; clear hb4 ha4)
    | (go_at_call 50; refine HF.out.mono ?_; rintro e w3 ⟨c0, c1, c2, c3, c4, c5, en, z, rfl, hb3, hjr, hres⟩; obtain ⟨rk, rh, rt, a1, n1, m1, a2, n2, m2, a3, n3, m3, rfl, rfl, rfl, rfl, rfl, rfl⟩ := hjr.shape6; have hrr3 : Box7 w3 (w.heap.size + 1 + 1) 0 0 ⟨#[]⟩ (.slice none 0 0) (.slice none 0 0) (.slice none 0 0) 0 := (hb3.block _ (by have := HB1.out.size; have := HB2.out.size; have := HB4.out.size; simp only [size_alloc] at *; omega)).trans ((HB4.out.block _ (by have := HB1.out.size; have := HB2.out.size; simp only [size_alloc] at *; omega)).trans ((HB2.out.block _ (by have := HB1.out.size; simp only [size_alloc] at *; omega)).trans ((HB1.out.block _ (by omega)).trans HRR.out))); obtain ⟨y0, y1, y2, y3, y4, y5, y6⟩ := hrr3.c; have yf := hrr3.f; have HB3 := Lib.hid hb3; have HJ := Lib.hid hjr; have HR3 := Lib.hid hrr3; have HRE := Lib.hid hres; clear hb3 hjr hrr3 hres))
  have HZZ := Lib.hid (set7_box HR3.out (k' := rk) (h' := rh) (t' := rt) (r1 := .slice a1 n1 m1) (r2 := .slice a2 n2 m2) (r3 := .slice a3 n3 m3) (en' := en)).c
  have HR : Hid (Below w.heap.size w (set7 w3 (w.heap.size + 1 + 1) (.int .i64 rk) (.int .i64 rh) (.string rt) (.slice a1 n1 m1) (.slice a2 n2 m2) (.slice a3 n3 m3) (.int .i64 en)) ∧ JRep (set7 w3 (w.heap.size + 1 + 1) (.int .i64 rk) (.int .i64 rh) (.string rt) (.slice a1 n1 m1) (.slice a2 n2 m2) (.slice a3 n3 m3) (.int .i64 en)) (since w.heap.size (set7 w3 (w.heap.size + 1 + 1) (.int .i64 rk) (.int .i64 rh) (.string rt) (.slice a1 n1 m1) (.slice a2 n2 m2) (.slice a3 n3 m3) (.int .i64 en))) z (.agg #[.int .i64 rk, .int .i64 rh, .string rt, .slice a1 n1 m1, .slice a2 n2 m2, .slice a3 n3 m3])) := by
    have q1 := HB1.out.size
    have q2 := HB2.out.size
    have q4 := HB4.out.size
    simp only [size_alloc] at q1
    have b1 : Below w.heap.size w w1 := HB.out.trans (HB1.out.mono (by omega))
    have b2 : Below w.heap.size w w2 := b1.trans (HB2.out.mono (by omega))
    have b4 : Below w.heap.size w w4 := b2.trans (HB4.out.mono (by omega))
    have b3 : Below w.heap.size w w3 := b4.trans (HB3.out.mono (by omega))
    exact Lib.hid ⟨b3.trans (below_set7 (by omega) _ _ _ _ _ _ _), HJ.out.keep (fun b hb => set7_other _ _ _ _ _ _ _ b (by have := hb.1; omega)) (fun b hb => ⟨by have := hb.1; omega, by rw [set7_size]; exact hb.2⟩)⟩
  refine bodyPost_ret (w := (set7 w3 (w.heap.size + 1 + 1) (.int .i64 rk) (.int .i64 rh) (.string rt) (.slice a1 n1 m1) (.slice a2 n2 m2) (.slice a3 n3 m3) (.int .i64 en))) (v := .agg #[.int .i64 rk, .int .i64 rh, .string rt, .slice a1 n1 m1, .slice a2 n2 m2, .slice a3 n3 m3, .int .i64 en]) ?_ rfl ?_
  · obtain ⟨y0, y1, y2, y3, y4, y5, y6⟩ := HZZ.out
    simp [results, Tryz.results20, go_sem, y0, y1, y2, y3, y4, y5, y6]
  · exact ⟨_, _, _, _, _, _, _, _, rfl, HR.out.1, HR.out.2, HRE.out⟩

set_option maxHeartbeats 2000000 in
set_option maxRecDepth 100000 in
theorem GroupBy_door (x y : J) (hx : x.ok) (hy : y.ok) (a : Option J) (hZ : ∀ (w1 : World) (g1 g2 : Value), ARep w1 (allB w1) x g1 → ARep w1 (allB w1) y g2 → Calls Tryz.prog 55 #[g1, g2] w1 (AnyGives w1 a)) (w : World) (S : Nat → Prop) (hS : ∀ b, S b → b < w.heap.size) (va vb : Value) (ha : JRep w S x va) (hb : JRep w S y vb) :
    Calls Tryz.prog 21 #[va, vb] w (AnsRes w a) := by
  obtain ⟨s1, s2, s3, rfl, _⟩ := ha.parts
  obtain ⟨r1, r2, r3, rfl, _⟩ := hb.parts
  have hB := below3 w (.cells #[.int .i64 x.kind, .int .i64 x.half, .string x.text, s1, s2, s3] 26) (.cells #[.int .i64 y.kind, .int .i64 y.half, .string y.text, r1, r2, r3] 26) (.cells #[.int .i64 0, .int .i64 0, .string ⟨#[]⟩, .slice none 0 0, .slice none 0 0, .slice none 0 0, .int .i64 0] 35)
  have H1 := Lib.hid (toGo_ok x _ S _ hx (lt_below hB hS) (ha.below hB hS))
  have H2 := Lib.hid (fun w' (hb' : Below (((w.alloc (.cells #[.int .i64 x.kind, .int .i64 x.half, .string x.text, s1, s2, s3] 26)).alloc (.cells #[.int .i64 y.kind, .int .i64 y.half, .string y.text, r1, r2, r3] 26)).alloc (.cells #[.int .i64 0, .int .i64 0, .string ⟨#[]⟩, .slice none 0 0, .slice none 0 0, .slice none 0 0, .int .i64 0] 35)).heap.size (((w.alloc (.cells #[.int .i64 x.kind, .int .i64 x.half, .string x.text, s1, s2, s3] 26)).alloc (.cells #[.int .i64 y.kind, .int .i64 y.half, .string y.text, r1, r2, r3] 26)).alloc (.cells #[.int .i64 0, .int .i64 0, .string ⟨#[]⟩, .slice none 0 0, .slice none 0 0, .slice none 0 0, .int .i64 0] 35)) w') => toGo_ok y w' S _ hy (lt_below (hB.trans (hb'.mono hB.size)) hS) (hb.below (hB.trans (hb'.mono hB.size)) hS))
  have hbb : Box (((w.alloc (.cells #[.int .i64 x.kind, .int .i64 x.half, .string x.text, s1, s2, s3] 26)).alloc (.cells #[.int .i64 y.kind, .int .i64 y.half, .string y.text, r1, r2, r3] 26)).alloc (.cells #[.int .i64 0, .int .i64 0, .string ⟨#[]⟩, .slice none 0 0, .slice none 0 0, .slice none 0 0, .int .i64 0] 35)) (w.heap.size + 1) y.kind y.half y.text r1 r2 r3 := (Below.heap_alloc _ _ _ (by rw [size_alloc, size_alloc]; omega)).trans (by have := Box.new (w.alloc (.cells #[.int .i64 x.kind, .int .i64 x.half, .string x.text, s1, s2, s3] 26)) y.kind y.half y.text r1 r2 r3; rw [size_alloc] at this; exact this)
  have hrr : Box7 (((w.alloc (.cells #[.int .i64 x.kind, .int .i64 x.half, .string x.text, s1, s2, s3] 26)).alloc (.cells #[.int .i64 y.kind, .int .i64 y.half, .string y.text, r1, r2, r3] 26)).alloc (.cells #[.int .i64 0, .int .i64 0, .string ⟨#[]⟩, .slice none 0 0, .slice none 0 0, .slice none 0 0, .int .i64 0] 35)) (w.heap.size + 1 + 1) 0 0 ⟨#[]⟩ (.slice none 0 0) (.slice none 0 0) (.slice none 0 0) 0 := by have := Box7.new ((w.alloc (.cells #[.int .i64 x.kind, .int .i64 x.half, .string x.text, s1, s2, s3] 26)).alloc (.cells #[.int .i64 y.kind, .int .i64 y.half, .string y.text, r1, r2, r3] 26)) 0 0 ⟨#[]⟩ (.slice none 0 0) (.slice none 0 0) (.slice none 0 0) 0; rw [size_alloc, size_alloc] at this; exact this
  simp only [size_alloc] at H1 H2
  have HBB := Lib.hid hbb
  have HRR := Lib.hid hrr
  have HB := Lib.hid hB
  have HZ := Lib.hid hZ
  generalize x.kind = xk, x.half = xh, x.text = xt, y.kind = yk, y.half = yh, y.text = yt at *
  clear hbb hrr hB ha hb hZ hx hy
  go_enter Tryz.func21, Tryz.ntmps21
  go_upto_region 1 with fail
  go_upto_region 2 with (go_at_call 49; refine H1.out.mono ?_; rintro e w1 ⟨g1, rfl, hb1, hg1⟩)
  have hbb1 : Box w1 (w.heap.size + 1) yk yh yt r1 r2 r3 := (hb1.block _ (by omega)).trans HBB.out
  obtain ⟨x0, x1, x2, x3, x4, x5⟩ := hbb1.c
  have HB1 := Lib.hid hb1
  have HG1 := Lib.hid hg1
  clear hbb1 hb1 hg1
  go_upto_region 3 with (go_at_call 49; refine (H2.out w1 HB1.out).mono ?_; rintro e w2 ⟨g2, rfl, hb2, hg2⟩)
  have HZ2 := Lib.hid (HZ.out w2 g1 g2 ((HG1.out.below hb2 (fun _ h => h.2)).mono (fun b h => Nat.lt_of_lt_of_le h.2 hb2.size)) (hg2.mono (fun b h => h.2)))
  have HB2 := Lib.hid hb2
  clear hb2 hg2
  go_upto_region 5 with fail
  go_wp2_with (first
    | (go_at_call 55; refine HZ2.out.mono ?_; rintro e w4 ⟨g3, rfl, hb4, ha4⟩; have HF := Lib.hid (result_any a g3 w4 ha4); have HB4 := Lib.hid hb4; clear hb4 ha4)
    | (go_at_call 50; refine HF.out.mono ?_; rintro e w3 ⟨c0, c1, c2, c3, c4, c5, en, z, rfl, hb3, hjr, hres⟩; obtain ⟨rk, rh, rt, a1, n1, m1, a2, n2, m2, a3, n3, m3, rfl, rfl, rfl, rfl, rfl, rfl⟩ := hjr.shape6; have hrr3 : Box7 w3 (w.heap.size + 1 + 1) 0 0 ⟨#[]⟩ (.slice none 0 0) (.slice none 0 0) (.slice none 0 0) 0 := (hb3.block _ (by have := HB1.out.size; have := HB2.out.size; have := HB4.out.size; simp only [size_alloc] at *; omega)).trans ((HB4.out.block _ (by have := HB1.out.size; have := HB2.out.size; simp only [size_alloc] at *; omega)).trans ((HB2.out.block _ (by have := HB1.out.size; simp only [size_alloc] at *; omega)).trans ((HB1.out.block _ (by omega)).trans HRR.out))); obtain ⟨y0, y1, y2, y3, y4, y5, y6⟩ := hrr3.c; have yf := hrr3.f; have HB3 := Lib.hid hb3; have HJ := Lib.hid hjr; have HR3 := Lib.hid hrr3; have HRE := Lib.hid hres; clear hb3 hjr hrr3 hres))
  have HZZ := Lib.hid (set7_box HR3.out (k' := rk) (h' := rh) (t' := rt) (r1 := .slice a1 n1 m1) (r2 := .slice a2 n2 m2) (r3 := .slice a3 n3 m3) (en' := en)).c
  have HR : Hid (Below w.heap.size w (set7 w3 (w.heap.size + 1 + 1) (.int .i64 rk) (.int .i64 rh) (.string rt) (.slice a1 n1 m1) (.slice a2 n2 m2) (.slice a3 n3 m3) (.int .i64 en)) ∧ JRep (set7 w3 (w.heap.size + 1 + 1) (.int .i64 rk) (.int .i64 rh) (.string rt) (.slice a1 n1 m1) (.slice a2 n2 m2) (.slice a3 n3 m3) (.int .i64 en)) (since w.heap.size (set7 w3 (w.heap.size + 1 + 1) (.int .i64 rk) (.int .i64 rh) (.string rt) (.slice a1 n1 m1) (.slice a2 n2 m2) (.slice a3 n3 m3) (.int .i64 en))) z (.agg #[.int .i64 rk, .int .i64 rh, .string rt, .slice a1 n1 m1, .slice a2 n2 m2, .slice a3 n3 m3])) := by
    have q1 := HB1.out.size
    have q2 := HB2.out.size
    have q4 := HB4.out.size
    simp only [size_alloc] at q1
    have b1 : Below w.heap.size w w1 := HB.out.trans (HB1.out.mono (by omega))
    have b2 : Below w.heap.size w w2 := b1.trans (HB2.out.mono (by omega))
    have b4 : Below w.heap.size w w4 := b2.trans (HB4.out.mono (by omega))
    have b3 : Below w.heap.size w w3 := b4.trans (HB3.out.mono (by omega))
    exact Lib.hid ⟨b3.trans (below_set7 (by omega) _ _ _ _ _ _ _), HJ.out.keep (fun b hb => set7_other _ _ _ _ _ _ _ b (by have := hb.1; omega)) (fun b hb => ⟨by have := hb.1; omega, by rw [set7_size]; exact hb.2⟩)⟩
  refine bodyPost_ret (w := (set7 w3 (w.heap.size + 1 + 1) (.int .i64 rk) (.int .i64 rh) (.string rt) (.slice a1 n1 m1) (.slice a2 n2 m2) (.slice a3 n3 m3) (.int .i64 en))) (v := .agg #[.int .i64 rk, .int .i64 rh, .string rt, .slice a1 n1 m1, .slice a2 n2 m2, .slice a3 n3 m3, .int .i64 en]) ?_ rfl ?_
  · obtain ⟨y0, y1, y2, y3, y4, y5, y6⟩ := HZZ.out
    simp [results, Tryz.results21, go_sem, y0, y1, y2, y3, y4, y5, y6]
  · exact ⟨_, _, _, _, _, _, _, _, rfl, HR.out.1, HR.out.2, HRE.out⟩

set_option maxHeartbeats 2000000 in
set_option maxRecDepth 100000 in
theorem UniqueBy_door (x y : J) (hx : x.ok) (hy : y.ok) (a : Option J) (hZ : ∀ (w1 : World) (g1 g2 : Value), ARep w1 (allB w1) x g1 → ARep w1 (allB w1) y g2 → Calls Tryz.prog 56 #[g1, g2] w1 (AnyGives w1 a)) (w : World) (S : Nat → Prop) (hS : ∀ b, S b → b < w.heap.size) (va vb : Value) (ha : JRep w S x va) (hb : JRep w S y vb) :
    Calls Tryz.prog 22 #[va, vb] w (AnsRes w a) := by
  obtain ⟨s1, s2, s3, rfl, _⟩ := ha.parts
  obtain ⟨r1, r2, r3, rfl, _⟩ := hb.parts
  have hB := below3 w (.cells #[.int .i64 x.kind, .int .i64 x.half, .string x.text, s1, s2, s3] 26) (.cells #[.int .i64 y.kind, .int .i64 y.half, .string y.text, r1, r2, r3] 26) (.cells #[.int .i64 0, .int .i64 0, .string ⟨#[]⟩, .slice none 0 0, .slice none 0 0, .slice none 0 0, .int .i64 0] 35)
  have H1 := Lib.hid (toGo_ok x _ S _ hx (lt_below hB hS) (ha.below hB hS))
  have H2 := Lib.hid (fun w' (hb' : Below (((w.alloc (.cells #[.int .i64 x.kind, .int .i64 x.half, .string x.text, s1, s2, s3] 26)).alloc (.cells #[.int .i64 y.kind, .int .i64 y.half, .string y.text, r1, r2, r3] 26)).alloc (.cells #[.int .i64 0, .int .i64 0, .string ⟨#[]⟩, .slice none 0 0, .slice none 0 0, .slice none 0 0, .int .i64 0] 35)).heap.size (((w.alloc (.cells #[.int .i64 x.kind, .int .i64 x.half, .string x.text, s1, s2, s3] 26)).alloc (.cells #[.int .i64 y.kind, .int .i64 y.half, .string y.text, r1, r2, r3] 26)).alloc (.cells #[.int .i64 0, .int .i64 0, .string ⟨#[]⟩, .slice none 0 0, .slice none 0 0, .slice none 0 0, .int .i64 0] 35)) w') => toGo_ok y w' S _ hy (lt_below (hB.trans (hb'.mono hB.size)) hS) (hb.below (hB.trans (hb'.mono hB.size)) hS))
  have hbb : Box (((w.alloc (.cells #[.int .i64 x.kind, .int .i64 x.half, .string x.text, s1, s2, s3] 26)).alloc (.cells #[.int .i64 y.kind, .int .i64 y.half, .string y.text, r1, r2, r3] 26)).alloc (.cells #[.int .i64 0, .int .i64 0, .string ⟨#[]⟩, .slice none 0 0, .slice none 0 0, .slice none 0 0, .int .i64 0] 35)) (w.heap.size + 1) y.kind y.half y.text r1 r2 r3 := (Below.heap_alloc _ _ _ (by rw [size_alloc, size_alloc]; omega)).trans (by have := Box.new (w.alloc (.cells #[.int .i64 x.kind, .int .i64 x.half, .string x.text, s1, s2, s3] 26)) y.kind y.half y.text r1 r2 r3; rw [size_alloc] at this; exact this)
  have hrr : Box7 (((w.alloc (.cells #[.int .i64 x.kind, .int .i64 x.half, .string x.text, s1, s2, s3] 26)).alloc (.cells #[.int .i64 y.kind, .int .i64 y.half, .string y.text, r1, r2, r3] 26)).alloc (.cells #[.int .i64 0, .int .i64 0, .string ⟨#[]⟩, .slice none 0 0, .slice none 0 0, .slice none 0 0, .int .i64 0] 35)) (w.heap.size + 1 + 1) 0 0 ⟨#[]⟩ (.slice none 0 0) (.slice none 0 0) (.slice none 0 0) 0 := by have := Box7.new ((w.alloc (.cells #[.int .i64 x.kind, .int .i64 x.half, .string x.text, s1, s2, s3] 26)).alloc (.cells #[.int .i64 y.kind, .int .i64 y.half, .string y.text, r1, r2, r3] 26)) 0 0 ⟨#[]⟩ (.slice none 0 0) (.slice none 0 0) (.slice none 0 0) 0; rw [size_alloc, size_alloc] at this; exact this
  simp only [size_alloc] at H1 H2
  have HBB := Lib.hid hbb
  have HRR := Lib.hid hrr
  have HB := Lib.hid hB
  have HZ := Lib.hid hZ
  generalize x.kind = xk, x.half = xh, x.text = xt, y.kind = yk, y.half = yh, y.text = yt at *
  clear hbb hrr hB ha hb hZ hx hy
  go_enter Tryz.func22, Tryz.ntmps22
  go_upto_region 1 with fail
  go_upto_region 2 with (go_at_call 49; refine H1.out.mono ?_; rintro e w1 ⟨g1, rfl, hb1, hg1⟩)
  have hbb1 : Box w1 (w.heap.size + 1) yk yh yt r1 r2 r3 := (hb1.block _ (by omega)).trans HBB.out
  obtain ⟨x0, x1, x2, x3, x4, x5⟩ := hbb1.c
  have HB1 := Lib.hid hb1
  have HG1 := Lib.hid hg1
  clear hbb1 hb1 hg1
  go_upto_region 3 with (go_at_call 49; refine (H2.out w1 HB1.out).mono ?_; rintro e w2 ⟨g2, rfl, hb2, hg2⟩)
  have HZ2 := Lib.hid (HZ.out w2 g1 g2 ((HG1.out.below hb2 (fun _ h => h.2)).mono (fun b h => Nat.lt_of_lt_of_le h.2 hb2.size)) (hg2.mono (fun b h => h.2)))
  have HB2 := Lib.hid hb2
  clear hb2 hg2
  go_upto_region 5 with fail
  go_wp2_with (first
    | (go_at_call 56; refine HZ2.out.mono ?_; rintro e w4 ⟨g3, rfl, hb4, ha4⟩; have HF := Lib.hid (result_any a g3 w4 ha4); have HB4 := Lib.hid hb4; clear hb4 ha4)
    | (go_at_call 50; refine HF.out.mono ?_; rintro e w3 ⟨c0, c1, c2, c3, c4, c5, en, z, rfl, hb3, hjr, hres⟩; obtain ⟨rk, rh, rt, a1, n1, m1, a2, n2, m2, a3, n3, m3, rfl, rfl, rfl, rfl, rfl, rfl⟩ := hjr.shape6; have hrr3 : Box7 w3 (w.heap.size + 1 + 1) 0 0 ⟨#[]⟩ (.slice none 0 0) (.slice none 0 0) (.slice none 0 0) 0 := (hb3.block _ (by have := HB1.out.size; have := HB2.out.size; have := HB4.out.size; simp only [size_alloc] at *; omega)).trans ((HB4.out.block _ (by have := HB1.out.size; have := HB2.out.size; simp only [size_alloc] at *; omega)).trans ((HB2.out.block _ (by have := HB1.out.size; simp only [size_alloc] at *; omega)).trans ((HB1.out.block _ (by omega)).trans HRR.out))); obtain ⟨y0, y1, y2, y3, y4, y5, y6⟩ := hrr3.c; have yf := hrr3.f; have HB3 := Lib.hid hb3; have HJ := Lib.hid hjr; have HR3 := Lib.hid hrr3; have HRE := Lib.hid hres; clear hb3 hjr hrr3 hres))
  have HZZ := Lib.hid (set7_box HR3.out (k' := rk) (h' := rh) (t' := rt) (r1 := .slice a1 n1 m1) (r2 := .slice a2 n2 m2) (r3 := .slice a3 n3 m3) (en' := en)).c
  have HR : Hid (Below w.heap.size w (set7 w3 (w.heap.size + 1 + 1) (.int .i64 rk) (.int .i64 rh) (.string rt) (.slice a1 n1 m1) (.slice a2 n2 m2) (.slice a3 n3 m3) (.int .i64 en)) ∧ JRep (set7 w3 (w.heap.size + 1 + 1) (.int .i64 rk) (.int .i64 rh) (.string rt) (.slice a1 n1 m1) (.slice a2 n2 m2) (.slice a3 n3 m3) (.int .i64 en)) (since w.heap.size (set7 w3 (w.heap.size + 1 + 1) (.int .i64 rk) (.int .i64 rh) (.string rt) (.slice a1 n1 m1) (.slice a2 n2 m2) (.slice a3 n3 m3) (.int .i64 en))) z (.agg #[.int .i64 rk, .int .i64 rh, .string rt, .slice a1 n1 m1, .slice a2 n2 m2, .slice a3 n3 m3])) := by
    have q1 := HB1.out.size
    have q2 := HB2.out.size
    have q4 := HB4.out.size
    simp only [size_alloc] at q1
    have b1 : Below w.heap.size w w1 := HB.out.trans (HB1.out.mono (by omega))
    have b2 : Below w.heap.size w w2 := b1.trans (HB2.out.mono (by omega))
    have b4 : Below w.heap.size w w4 := b2.trans (HB4.out.mono (by omega))
    have b3 : Below w.heap.size w w3 := b4.trans (HB3.out.mono (by omega))
    exact Lib.hid ⟨b3.trans (below_set7 (by omega) _ _ _ _ _ _ _), HJ.out.keep (fun b hb => set7_other _ _ _ _ _ _ _ b (by have := hb.1; omega)) (fun b hb => ⟨by have := hb.1; omega, by rw [set7_size]; exact hb.2⟩)⟩
  refine bodyPost_ret (w := (set7 w3 (w.heap.size + 1 + 1) (.int .i64 rk) (.int .i64 rh) (.string rt) (.slice a1 n1 m1) (.slice a2 n2 m2) (.slice a3 n3 m3) (.int .i64 en))) (v := .agg #[.int .i64 rk, .int .i64 rh, .string rt, .slice a1 n1 m1, .slice a2 n2 m2, .slice a3 n3 m3, .int .i64 en]) ?_ rfl ?_
  · obtain ⟨y0, y1, y2, y3, y4, y5, y6⟩ := HZZ.out
    simp [results, Tryz.results22, go_sem, y0, y1, y2, y3, y4, y5, y6]
  · exact ⟨_, _, _, _, _, _, _, _, rfl, HR.out.1, HR.out.2, HRE.out⟩

set_option maxHeartbeats 2000000 in
set_option maxRecDepth 100000 in
theorem MinBy_door (x y : J) (hx : x.ok) (hy : y.ok) (a : Option J) (hZ : ∀ (w1 : World) (g1 g2 : Value), ARep w1 (allB w1) x g1 → ARep w1 (allB w1) y g2 → Calls Tryz.prog 57 #[g1, g2] w1 (AnyGives w1 a)) (w : World) (S : Nat → Prop) (hS : ∀ b, S b → b < w.heap.size) (va vb : Value) (ha : JRep w S x va) (hb : JRep w S y vb) :
    Calls Tryz.prog 23 #[va, vb] w (AnsRes w a) := by
  obtain ⟨s1, s2, s3, rfl, _⟩ := ha.parts
  obtain ⟨r1, r2, r3, rfl, _⟩ := hb.parts
  have hB := below3 w (.cells #[.int .i64 x.kind, .int .i64 x.half, .string x.text, s1, s2, s3] 26) (.cells #[.int .i64 y.kind, .int .i64 y.half, .string y.text, r1, r2, r3] 26) (.cells #[.int .i64 0, .int .i64 0, .string ⟨#[]⟩, .slice none 0 0, .slice none 0 0, .slice none 0 0, .int .i64 0] 35)
  have H1 := Lib.hid (toGo_ok x _ S _ hx (lt_below hB hS) (ha.below hB hS))
  have H2 := Lib.hid (fun w' (hb' : Below (((w.alloc (.cells #[.int .i64 x.kind, .int .i64 x.half, .string x.text, s1, s2, s3] 26)).alloc (.cells #[.int .i64 y.kind, .int .i64 y.half, .string y.text, r1, r2, r3] 26)).alloc (.cells #[.int .i64 0, .int .i64 0, .string ⟨#[]⟩, .slice none 0 0, .slice none 0 0, .slice none 0 0, .int .i64 0] 35)).heap.size (((w.alloc (.cells #[.int .i64 x.kind, .int .i64 x.half, .string x.text, s1, s2, s3] 26)).alloc (.cells #[.int .i64 y.kind, .int .i64 y.half, .string y.text, r1, r2, r3] 26)).alloc (.cells #[.int .i64 0, .int .i64 0, .string ⟨#[]⟩, .slice none 0 0, .slice none 0 0, .slice none 0 0, .int .i64 0] 35)) w') => toGo_ok y w' S _ hy (lt_below (hB.trans (hb'.mono hB.size)) hS) (hb.below (hB.trans (hb'.mono hB.size)) hS))
  have hbb : Box (((w.alloc (.cells #[.int .i64 x.kind, .int .i64 x.half, .string x.text, s1, s2, s3] 26)).alloc (.cells #[.int .i64 y.kind, .int .i64 y.half, .string y.text, r1, r2, r3] 26)).alloc (.cells #[.int .i64 0, .int .i64 0, .string ⟨#[]⟩, .slice none 0 0, .slice none 0 0, .slice none 0 0, .int .i64 0] 35)) (w.heap.size + 1) y.kind y.half y.text r1 r2 r3 := (Below.heap_alloc _ _ _ (by rw [size_alloc, size_alloc]; omega)).trans (by have := Box.new (w.alloc (.cells #[.int .i64 x.kind, .int .i64 x.half, .string x.text, s1, s2, s3] 26)) y.kind y.half y.text r1 r2 r3; rw [size_alloc] at this; exact this)
  have hrr : Box7 (((w.alloc (.cells #[.int .i64 x.kind, .int .i64 x.half, .string x.text, s1, s2, s3] 26)).alloc (.cells #[.int .i64 y.kind, .int .i64 y.half, .string y.text, r1, r2, r3] 26)).alloc (.cells #[.int .i64 0, .int .i64 0, .string ⟨#[]⟩, .slice none 0 0, .slice none 0 0, .slice none 0 0, .int .i64 0] 35)) (w.heap.size + 1 + 1) 0 0 ⟨#[]⟩ (.slice none 0 0) (.slice none 0 0) (.slice none 0 0) 0 := by have := Box7.new ((w.alloc (.cells #[.int .i64 x.kind, .int .i64 x.half, .string x.text, s1, s2, s3] 26)).alloc (.cells #[.int .i64 y.kind, .int .i64 y.half, .string y.text, r1, r2, r3] 26)) 0 0 ⟨#[]⟩ (.slice none 0 0) (.slice none 0 0) (.slice none 0 0) 0; rw [size_alloc, size_alloc] at this; exact this
  simp only [size_alloc] at H1 H2
  have HBB := Lib.hid hbb
  have HRR := Lib.hid hrr
  have HB := Lib.hid hB
  have HZ := Lib.hid hZ
  generalize x.kind = xk, x.half = xh, x.text = xt, y.kind = yk, y.half = yh, y.text = yt at *
  clear hbb hrr hB ha hb hZ hx hy
  go_enter Tryz.func23, Tryz.ntmps23
  go_upto_region 1 with fail
  go_upto_region 2 with (go_at_call 49; refine H1.out.mono ?_; rintro e w1 ⟨g1, rfl, hb1, hg1⟩)
  have hbb1 : Box w1 (w.heap.size + 1) yk yh yt r1 r2 r3 := (hb1.block _ (by omega)).trans HBB.out
  obtain ⟨x0, x1, x2, x3, x4, x5⟩ := hbb1.c
  have HB1 := Lib.hid hb1
  have HG1 := Lib.hid hg1
  clear hbb1 hb1 hg1
  go_upto_region 3 with (go_at_call 49; refine (H2.out w1 HB1.out).mono ?_; rintro e w2 ⟨g2, rfl, hb2, hg2⟩)
  have HZ2 := Lib.hid (HZ.out w2 g1 g2 ((HG1.out.below hb2 (fun _ h => h.2)).mono (fun b h => Nat.lt_of_lt_of_le h.2 hb2.size)) (hg2.mono (fun b h => h.2)))
  have HB2 := Lib.hid hb2
  clear hb2 hg2
  go_upto_region 5 with fail
  go_wp2_with (first
    | (go_at_call 57; refine HZ2.out.mono ?_; rintro e w4 ⟨g3, rfl, hb4, ha4⟩; have HF := Lib.hid (result_any a g3 w4 ha4); have HB4 := Lib.hid hb4; clear hb4 ha4)
    | (go_at_call 50; refine HF.out.mono ?_; rintro e w3 ⟨c0, c1, c2, c3, c4, c5, en, z, rfl, hb3, hjr, hres⟩; obtain ⟨rk, rh, rt, a1, n1, m1, a2, n2, m2, a3, n3, m3, rfl, rfl, rfl, rfl, rfl, rfl⟩ := hjr.shape6; have hrr3 : Box7 w3 (w.heap.size + 1 + 1) 0 0 ⟨#[]⟩ (.slice none 0 0) (.slice none 0 0) (.slice none 0 0) 0 := (hb3.block _ (by have := HB1.out.size; have := HB2.out.size; have := HB4.out.size; simp only [size_alloc] at *; omega)).trans ((HB4.out.block _ (by have := HB1.out.size; have := HB2.out.size; simp only [size_alloc] at *; omega)).trans ((HB2.out.block _ (by have := HB1.out.size; simp only [size_alloc] at *; omega)).trans ((HB1.out.block _ (by omega)).trans HRR.out))); obtain ⟨y0, y1, y2, y3, y4, y5, y6⟩ := hrr3.c; have yf := hrr3.f; have HB3 := Lib.hid hb3; have HJ := Lib.hid hjr; have HR3 := Lib.hid hrr3; have HRE := Lib.hid hres; clear hb3 hjr hrr3 hres))
  have HZZ := Lib.hid (set7_box HR3.out (k' := rk) (h' := rh) (t' := rt) (r1 := .slice a1 n1 m1) (r2 := .slice a2 n2 m2) (r3 := .slice a3 n3 m3) (en' := en)).c
  have HR : Hid (Below w.heap.size w (set7 w3 (w.heap.size + 1 + 1) (.int .i64 rk) (.int .i64 rh) (.string rt) (.slice a1 n1 m1) (.slice a2 n2 m2) (.slice a3 n3 m3) (.int .i64 en)) ∧ JRep (set7 w3 (w.heap.size + 1 + 1) (.int .i64 rk) (.int .i64 rh) (.string rt) (.slice a1 n1 m1) (.slice a2 n2 m2) (.slice a3 n3 m3) (.int .i64 en)) (since w.heap.size (set7 w3 (w.heap.size + 1 + 1) (.int .i64 rk) (.int .i64 rh) (.string rt) (.slice a1 n1 m1) (.slice a2 n2 m2) (.slice a3 n3 m3) (.int .i64 en))) z (.agg #[.int .i64 rk, .int .i64 rh, .string rt, .slice a1 n1 m1, .slice a2 n2 m2, .slice a3 n3 m3])) := by
    have q1 := HB1.out.size
    have q2 := HB2.out.size
    have q4 := HB4.out.size
    simp only [size_alloc] at q1
    have b1 : Below w.heap.size w w1 := HB.out.trans (HB1.out.mono (by omega))
    have b2 : Below w.heap.size w w2 := b1.trans (HB2.out.mono (by omega))
    have b4 : Below w.heap.size w w4 := b2.trans (HB4.out.mono (by omega))
    have b3 : Below w.heap.size w w3 := b4.trans (HB3.out.mono (by omega))
    exact Lib.hid ⟨b3.trans (below_set7 (by omega) _ _ _ _ _ _ _), HJ.out.keep (fun b hb => set7_other _ _ _ _ _ _ _ b (by have := hb.1; omega)) (fun b hb => ⟨by have := hb.1; omega, by rw [set7_size]; exact hb.2⟩)⟩
  refine bodyPost_ret (w := (set7 w3 (w.heap.size + 1 + 1) (.int .i64 rk) (.int .i64 rh) (.string rt) (.slice a1 n1 m1) (.slice a2 n2 m2) (.slice a3 n3 m3) (.int .i64 en))) (v := .agg #[.int .i64 rk, .int .i64 rh, .string rt, .slice a1 n1 m1, .slice a2 n2 m2, .slice a3 n3 m3, .int .i64 en]) ?_ rfl ?_
  · obtain ⟨y0, y1, y2, y3, y4, y5, y6⟩ := HZZ.out
    simp [results, Tryz.results23, go_sem, y0, y1, y2, y3, y4, y5, y6]
  · exact ⟨_, _, _, _, _, _, _, _, rfl, HR.out.1, HR.out.2, HRE.out⟩

set_option maxHeartbeats 2000000 in
set_option maxRecDepth 100000 in
theorem MaxBy_door (x y : J) (hx : x.ok) (hy : y.ok) (a : Option J) (hZ : ∀ (w1 : World) (g1 g2 : Value), ARep w1 (allB w1) x g1 → ARep w1 (allB w1) y g2 → Calls Tryz.prog 58 #[g1, g2] w1 (AnyGives w1 a)) (w : World) (S : Nat → Prop) (hS : ∀ b, S b → b < w.heap.size) (va vb : Value) (ha : JRep w S x va) (hb : JRep w S y vb) :
    Calls Tryz.prog 24 #[va, vb] w (AnsRes w a) := by
  obtain ⟨s1, s2, s3, rfl, _⟩ := ha.parts
  obtain ⟨r1, r2, r3, rfl, _⟩ := hb.parts
  have hB := below3 w (.cells #[.int .i64 x.kind, .int .i64 x.half, .string x.text, s1, s2, s3] 26) (.cells #[.int .i64 y.kind, .int .i64 y.half, .string y.text, r1, r2, r3] 26) (.cells #[.int .i64 0, .int .i64 0, .string ⟨#[]⟩, .slice none 0 0, .slice none 0 0, .slice none 0 0, .int .i64 0] 35)
  have H1 := Lib.hid (toGo_ok x _ S _ hx (lt_below hB hS) (ha.below hB hS))
  have H2 := Lib.hid (fun w' (hb' : Below (((w.alloc (.cells #[.int .i64 x.kind, .int .i64 x.half, .string x.text, s1, s2, s3] 26)).alloc (.cells #[.int .i64 y.kind, .int .i64 y.half, .string y.text, r1, r2, r3] 26)).alloc (.cells #[.int .i64 0, .int .i64 0, .string ⟨#[]⟩, .slice none 0 0, .slice none 0 0, .slice none 0 0, .int .i64 0] 35)).heap.size (((w.alloc (.cells #[.int .i64 x.kind, .int .i64 x.half, .string x.text, s1, s2, s3] 26)).alloc (.cells #[.int .i64 y.kind, .int .i64 y.half, .string y.text, r1, r2, r3] 26)).alloc (.cells #[.int .i64 0, .int .i64 0, .string ⟨#[]⟩, .slice none 0 0, .slice none 0 0, .slice none 0 0, .int .i64 0] 35)) w') => toGo_ok y w' S _ hy (lt_below (hB.trans (hb'.mono hB.size)) hS) (hb.below (hB.trans (hb'.mono hB.size)) hS))
  have hbb : Box (((w.alloc (.cells #[.int .i64 x.kind, .int .i64 x.half, .string x.text, s1, s2, s3] 26)).alloc (.cells #[.int .i64 y.kind, .int .i64 y.half, .string y.text, r1, r2, r3] 26)).alloc (.cells #[.int .i64 0, .int .i64 0, .string ⟨#[]⟩, .slice none 0 0, .slice none 0 0, .slice none 0 0, .int .i64 0] 35)) (w.heap.size + 1) y.kind y.half y.text r1 r2 r3 := (Below.heap_alloc _ _ _ (by rw [size_alloc, size_alloc]; omega)).trans (by have := Box.new (w.alloc (.cells #[.int .i64 x.kind, .int .i64 x.half, .string x.text, s1, s2, s3] 26)) y.kind y.half y.text r1 r2 r3; rw [size_alloc] at this; exact this)
  have hrr : Box7 (((w.alloc (.cells #[.int .i64 x.kind, .int .i64 x.half, .string x.text, s1, s2, s3] 26)).alloc (.cells #[.int .i64 y.kind, .int .i64 y.half, .string y.text, r1, r2, r3] 26)).alloc (.cells #[.int .i64 0, .int .i64 0, .string ⟨#[]⟩, .slice none 0 0, .slice none 0 0, .slice none 0 0, .int .i64 0] 35)) (w.heap.size + 1 + 1) 0 0 ⟨#[]⟩ (.slice none 0 0) (.slice none 0 0) (.slice none 0 0) 0 := by have := Box7.new ((w.alloc (.cells #[.int .i64 x.kind, .int .i64 x.half, .string x.text, s1, s2, s3] 26)).alloc (.cells #[.int .i64 y.kind, .int .i64 y.half, .string y.text, r1, r2, r3] 26)) 0 0 ⟨#[]⟩ (.slice none 0 0) (.slice none 0 0) (.slice none 0 0) 0; rw [size_alloc, size_alloc] at this; exact this
  simp only [size_alloc] at H1 H2
  have HBB := Lib.hid hbb
  have HRR := Lib.hid hrr
  have HB := Lib.hid hB
  have HZ := Lib.hid hZ
  generalize x.kind = xk, x.half = xh, x.text = xt, y.kind = yk, y.half = yh, y.text = yt at *
  clear hbb hrr hB ha hb hZ hx hy
  go_enter Tryz.func24, Tryz.ntmps24
  go_upto_region 1 with fail
  go_upto_region 2 with (go_at_call 49; refine H1.out.mono ?_; rintro e w1 ⟨g1, rfl, hb1, hg1⟩)
  have hbb1 : Box w1 (w.heap.size + 1) yk yh yt r1 r2 r3 := (hb1.block _ (by omega)).trans HBB.out
  obtain ⟨x0, x1, x2, x3, x4, x5⟩ := hbb1.c
  have HB1 := Lib.hid hb1
  have HG1 := Lib.hid hg1
  clear hbb1 hb1 hg1
  go_upto_region 3 with (go_at_call 49; refine (H2.out w1 HB1.out).mono ?_; rintro e w2 ⟨g2, rfl, hb2, hg2⟩)
  have HZ2 := Lib.hid (HZ.out w2 g1 g2 ((HG1.out.below hb2 (fun _ h => h.2)).mono (fun b h => Nat.lt_of_lt_of_le h.2 hb2.size)) (hg2.mono (fun b h => h.2)))
  have HB2 := Lib.hid hb2
  clear hb2 hg2
  go_upto_region 5 with fail
  go_wp2_with (first
    | (go_at_call 58; refine HZ2.out.mono ?_; rintro e w4 ⟨g3, rfl, hb4, ha4⟩; have HF := Lib.hid (result_any a g3 w4 ha4); have HB4 := Lib.hid hb4; clear hb4 ha4)
    | (go_at_call 50; refine HF.out.mono ?_; rintro e w3 ⟨c0, c1, c2, c3, c4, c5, en, z, rfl, hb3, hjr, hres⟩; obtain ⟨rk, rh, rt, a1, n1, m1, a2, n2, m2, a3, n3, m3, rfl, rfl, rfl, rfl, rfl, rfl⟩ := hjr.shape6; have hrr3 : Box7 w3 (w.heap.size + 1 + 1) 0 0 ⟨#[]⟩ (.slice none 0 0) (.slice none 0 0) (.slice none 0 0) 0 := (hb3.block _ (by have := HB1.out.size; have := HB2.out.size; have := HB4.out.size; simp only [size_alloc] at *; omega)).trans ((HB4.out.block _ (by have := HB1.out.size; have := HB2.out.size; simp only [size_alloc] at *; omega)).trans ((HB2.out.block _ (by have := HB1.out.size; simp only [size_alloc] at *; omega)).trans ((HB1.out.block _ (by omega)).trans HRR.out))); obtain ⟨y0, y1, y2, y3, y4, y5, y6⟩ := hrr3.c; have yf := hrr3.f; have HB3 := Lib.hid hb3; have HJ := Lib.hid hjr; have HR3 := Lib.hid hrr3; have HRE := Lib.hid hres; clear hb3 hjr hrr3 hres))
  have HZZ := Lib.hid (set7_box HR3.out (k' := rk) (h' := rh) (t' := rt) (r1 := .slice a1 n1 m1) (r2 := .slice a2 n2 m2) (r3 := .slice a3 n3 m3) (en' := en)).c
  have HR : Hid (Below w.heap.size w (set7 w3 (w.heap.size + 1 + 1) (.int .i64 rk) (.int .i64 rh) (.string rt) (.slice a1 n1 m1) (.slice a2 n2 m2) (.slice a3 n3 m3) (.int .i64 en)) ∧ JRep (set7 w3 (w.heap.size + 1 + 1) (.int .i64 rk) (.int .i64 rh) (.string rt) (.slice a1 n1 m1) (.slice a2 n2 m2) (.slice a3 n3 m3) (.int .i64 en)) (since w.heap.size (set7 w3 (w.heap.size + 1 + 1) (.int .i64 rk) (.int .i64 rh) (.string rt) (.slice a1 n1 m1) (.slice a2 n2 m2) (.slice a3 n3 m3) (.int .i64 en))) z (.agg #[.int .i64 rk, .int .i64 rh, .string rt, .slice a1 n1 m1, .slice a2 n2 m2, .slice a3 n3 m3])) := by
    have q1 := HB1.out.size
    have q2 := HB2.out.size
    have q4 := HB4.out.size
    simp only [size_alloc] at q1
    have b1 : Below w.heap.size w w1 := HB.out.trans (HB1.out.mono (by omega))
    have b2 : Below w.heap.size w w2 := b1.trans (HB2.out.mono (by omega))
    have b4 : Below w.heap.size w w4 := b2.trans (HB4.out.mono (by omega))
    have b3 : Below w.heap.size w w3 := b4.trans (HB3.out.mono (by omega))
    exact Lib.hid ⟨b3.trans (below_set7 (by omega) _ _ _ _ _ _ _), HJ.out.keep (fun b hb => set7_other _ _ _ _ _ _ _ b (by have := hb.1; omega)) (fun b hb => ⟨by have := hb.1; omega, by rw [set7_size]; exact hb.2⟩)⟩
  refine bodyPost_ret (w := (set7 w3 (w.heap.size + 1 + 1) (.int .i64 rk) (.int .i64 rh) (.string rt) (.slice a1 n1 m1) (.slice a2 n2 m2) (.slice a3 n3 m3) (.int .i64 en))) (v := .agg #[.int .i64 rk, .int .i64 rh, .string rt, .slice a1 n1 m1, .slice a2 n2 m2, .slice a3 n3 m3, .int .i64 en]) ?_ rfl ?_
  · obtain ⟨y0, y1, y2, y3, y4, y5, y6⟩ := HZZ.out
    simp [results, Tryz.results24, go_sem, y0, y1, y2, y3, y4, y5, y6]
  · exact ⟨_, _, _, _, _, _, _, _, rfl, HR.out.1, HR.out.2, HRE.out⟩
end Go.Gj
