/-
  gojq: delpaths of one path that ends in a key; funcDelpaths, ZzDelPaths.
-/
import Derived.Test.YtnlndpgbhmkanaaGreatDoorWHolP
import Derived.Test.YtnlndpgbhmkanaaGreatDoorWAns
namespace Go.Gj
set_option linter.unusedSimpArgs false
set_option linter.unusedVariables false
set_option linter.unnecessarySimpa false
open Go Go.RowKit Go.Proofs

variable {ma : Option Nat}

set_option maxHeartbeats 1000000 in
set_option maxRecDepth 100000 in
theorem delpaths_ok (v : J) (q : List J) (hk : ∀ k ∈ q, keyOk k) (hkey : keyedJ q) (hv : v.ok) (hs : ∀ r, delJ v q = some r → r.sz) (w : World) (gv gp : Value) (hgv : ARep w (Old w.heap.size w) v gv) (hgp : ARep w (allB w) (.arr [.arr q]) gp) :
    Calls Tryz.prog 141 #[gv, gp, .map ma] w (AnyGives w (delJ v q)) := by
  obtain ⟨b, o, c, rfl, hc, hb, ⟨gq, hcell, hgq⟩, _⟩ := hgp
  obtain ⟨b2, o2, c2, rfl, hc2, hb2, hcs2⟩ := hgq
  have hbe : Below w.heap.size w (w.alloc (.cells #[] 141)) := below1 _ _
  have hgv1 : ARep (w.alloc (.cells #[] 141)) (Old (w.alloc (.cells #[] 141)).heap.size (w.alloc (.cells #[] 141))) v gv := ARep.oldAll (hgv.old hbe.block)
  have hq1 : PSl (w.alloc (.cells #[] 141)) q (.slice (some ⟨b2, o2, none⟩) q.length c2) := ⟨_, c2, rfl, hc2.1, hc2.2, .inr ⟨b2, o2, rfl, Nat.lt_of_lt_of_le hb2 hbe.size, ACells.keep (.of_below hbe fun _ h => h) (fun b h => Nat.lt_of_lt_of_le h hbe.size) b2 hb2 q o2 hcs2⟩⟩
  have hC := upd_hol (ma := ma) q hk hkey v _ gv _ hv hgv1 hq1
  have hcell1 : (w.alloc (.cells #[] 141)).cell? ⟨b, o, none⟩ = some (.iface 80 (.slice (some ⟨b2, o2, none⟩) q.length c2)) := (hbe.cell (p := ⟨b, o, none⟩) hb).trans hcell
  have HBE := Lib.hid hbe
  have hc' : 1 ≤ c := hc.1
  cases hdel : delJ v q with
  | none =>
    rw [hdel] at hC
    have HC : Hid (Calls Tryz.prog 186 #[gv, .slice (some ⟨b2, o2, none⟩) q.length c2, .iface 141 (.agg #[]), .map ma] (w.alloc (.cells #[] 141)) fun e w' => ∃ t v, e = .returned (.tuple #[.nilIface, .iface t v]) ∧ Below (w.alloc (.cells #[] 141)).heap.size (w.alloc (.cells #[] 141)) w') := Lib.hid hC
    have q1 := hgv.shape
    clear hC hgv hgv1 hq1 hcs2 hk hkey hv hs hbe
    rcases q1 with rfl | ⟨t1, g1, rfl⟩
    all_goals
      go_enter Tryz.func141, Tryz.ntmps141
      go_wp2_with fail
      refine wp_loop_rounds 2 ?_
      rw [rounds_succ]
      go_wp2_with (go_at_call 186; refine HC.out.mono ?_; rintro e w1 ⟨t, v, rfl, hb1⟩; have HB := Lib.hid hb1; clear hb1)
      exact bodyPost_ret (v := .iface 129 (.pointer (some ⟨w1.heap.size, 0, none⟩))) (by simp [results, Tryz.results141, go_sem]) rfl ⟨_, rfl, HBE.out.trans ((HB.out.trans (below1 _ _ |>.mono HB.out.size)).mono HBE.out.size), err_129 _⟩
  | some y =>
    rw [hdel] at hC
    have HC : Hid (Calls Tryz.prog 186 #[gv, .slice (some ⟨b2, o2, none⟩) q.length c2, .iface 141 (.agg #[]), .map ma] (w.alloc (.cells #[] 141)) fun e w' => ∃ g M, e = .returned (.tuple #[g, .nilIface]) ∧ Below (w.alloc (.cells #[] 141)).heap.size (w.alloc (.cells #[] 141)) w' ∧ M ≤ w'.heap.size ∧ Hol w' (w.alloc (.cells #[] 141)).heap.size M y g) := Lib.hid hC
    have HS := Lib.hid (hs y hdel)
    clear hC hgv hgv1 hq1 hcs2 hk hkey hv hs hbe hdel
    go_enter Tryz.func141, Tryz.ntmps141
    go_wp2_with fail
    refine wp_loop_rounds 2 ?_
    rw [rounds_succ]
    go_wp2_with (go_at_call 186; refine HC.out.mono ?_; rintro e w1 ⟨g, M, rfl, hb1, hM, hH⟩; have HB := Lib.hid (And.intro hb1 hM); have HD := Lib.hid (del_hol hH w1 fun _ _ => rfl); clear hb1 hM hH)
    rw [rounds_succ]
    go_wp2_with (go_at_call 187; refine HD.out.mono ?_; rintro e w2 ⟨rfl, hmid, hr⟩; have HR := Lib.hid (And.intro hmid hr); clear hmid hr)
    refine bodyPost_ret (v := g) (by simp [results, Tryz.results141, go_sem]) rfl ⟨_, rfl, ?_, ?_, HS.out⟩
    · exact HBE.out.trans (((HB.out.1.mono (Nat.le_refl _)).trans (HR.out.1.below HB.out.1.size)).mono HBE.out.size)
    · exact HR.out.2.mono fun b hb => Nat.lt_of_lt_of_le hb (Nat.le_trans HB.out.2 HR.out.1.size)

theorem run_makeMap179 (w : World) : (Instr.makeMap 179 none).run Tryz.prog w = .ok (.map (some w.heap.size)) (w.alloc (.map #[] 0)) := by
  simp [Instr.makeMap, run_underlying Tryz.underlying179]

theorem funcDelpaths_ok (v : J) (q : List J) (hk : ∀ k ∈ q, keyOk k) (hkey : keyedJ q) (hv : v.ok) (hs : ∀ r, delJ v q = some r → r.sz) (w : World) (gv gp : Value) (hgv : ARep w (Old w.heap.size w) v gv) (hgp : ARep w (allB w) (.arr [.arr q]) gp) :
    Calls Tryz.prog 91 #[gv, gp] w (AnyGives w (delJ v q)) := by
  have hbe : Below w.heap.size w (w.alloc (.map #[] 0)) := below1 _ _
  have HBE := Lib.hid hbe
  have HC := Lib.hid (delpaths_ok (ma := some w.heap.size) v q hk hkey hv hs (w.alloc (.map #[] 0)) gv gp (ARep.oldAll (hgv.old hbe.block)) ((hgp.below hbe fun _ h => h).mono fun b h => Nat.lt_of_lt_of_le h hbe.size))
  have hmk := run_makeMap179 w
  clear hk hkey hv hs hgv hgp hbe
  go_enter Tryz.func91, Tryz.ntmps91
  go_wp2_with (go_at_call 141; refine HC.out.mono ?_; rintro e w' ⟨g, rfl, hb, hg⟩)
  exact bodyPost_ret (v := g) (by simp [results, Tryz.results91, go_sem]) rfl ⟨_, rfl, HBE.out.trans (hb.mono HBE.out.size), hg⟩

/-- gojq's ZzDelPaths. -/
theorem ZzDelPaths_ok (v : J) (q : List J) (hk : ∀ k ∈ q, keyOk k) (hkey : keyedJ q) (hv : v.ok) (hs : ∀ r, delJ v q = some r → r.sz) (w : World) (gv gp : Value) (hgv : ARep w (Old w.heap.size w) v gv) (hgp : ARep w (allB w) (.arr [.arr q]) gp) :
    Calls Tryz.prog 68 #[gv, gp] w (AnyGives w (delJ v q)) := by
  have HC := Lib.hid (funcDelpaths_ok v q hk hkey hv hs w gv gp hgv hgp)
  clear hk hkey hv hs hgv hgp
  go_enter Tryz.func68, Tryz.ntmps68
  go_wp2_with (go_at_call 91; refine HC.out.mono ?_; rintro e w' ⟨g, rfl, hb, hg⟩)
  exact bodyPost_ret (v := g) (by simp [results, Tryz.results68, go_sem]) rfl ⟨_, rfl, hb, hg⟩
end Go.Gj

/-
  The door impl.DelPaths. (Printed by wip/gen_doord.py.)
-/
namespace Go.Gj
set_option linter.unusedSimpArgs false
set_option linter.unusedVariables false
set_option linter.unnecessarySimpa false
open Go Go.RowKit Go.Proofs

theorem sinceOld {w w' : World} {n : Nat} {x : J} {g : Value} (h : ARep w (GjU.since n w) x g) (hb : Below w.heap.size w w') : ARep w' (Old w'.heap.size w') x g :=
  (GjU.keepU h hb (Nat.le_refl _)).mono fun b h => ⟨h.2.1, h.2⟩

set_option maxHeartbeats 2000000 in
set_option maxRecDepth 100000 in
theorem DelPaths_door (x y : J) (hx : x.ok) (hy : y.ok) (a : Option J) (hZ : ∀ (w1 : World) (g1 g2 : Value), ARep w1 (Old w1.heap.size w1) x g1 → ARep w1 (allB w1) y g2 → Calls Tryz.prog 68 #[g1, g2] w1 (AnyGives w1 a)) (w : World) (S : Nat → Prop) (hS : ∀ b, S b → b < w.heap.size) (va vb : Value) (ha : JRep w S x va) (hb : JRep w S y vb) :
    Calls Tryz.prog 37 #[va, vb] w (AnsRes w a) := by
  obtain ⟨s1, s2, s3, rfl, _⟩ := ha.parts
  obtain ⟨r1, r2, r3, rfl, _⟩ := hb.parts
  have hB := below3 w (.cells #[.int .i64 x.kind, .int .i64 x.half, .string x.text, s1, s2, s3] 26) (.cells #[.int .i64 y.kind, .int .i64 y.half, .string y.text, r1, r2, r3] 26) (.cells #[.int .i64 0, .int .i64 0, .string ⟨#[]⟩, .slice none 0 0, .slice none 0 0, .slice none 0 0, .int .i64 0] 35)
  have H1 := Lib.hid (GjU.toGo_ok x _ S _ hx (lt_below hB hS) (ha.below hB hS))
  have H2 := Lib.hid (fun w' (hb' : Below (((w.alloc (.cells #[.int .i64 x.kind, .int .i64 x.half, .string x.text, s1, s2, s3] 26)).alloc (.cells #[.int .i64 y.kind, .int .i64 y.half, .string y.text, r1, r2, r3] 26)).alloc (.cells #[.int .i64 0, .int .i64 0, .string ⟨#[]⟩, .slice none 0 0, .slice none 0 0, .slice none 0 0, .int .i64 0] 35)).heap.size (((w.alloc (.cells #[.int .i64 x.kind, .int .i64 x.half, .string x.text, s1, s2, s3] 26)).alloc (.cells #[.int .i64 y.kind, .int .i64 y.half, .string y.text, r1, r2, r3] 26)).alloc (.cells #[.int .i64 0, .int .i64 0, .string ⟨#[]⟩, .slice none 0 0, .slice none 0 0, .slice none 0 0, .int .i64 0] 35)) w') => toGo_ok y w' S _ hy (lt_below (hB.trans (hb'.mono hB.size)) hS) (hb.below (hB.trans (hb'.mono hB.size)) hS))
  have hbb : Box (((w.alloc (.cells #[.int .i64 x.kind, .int .i64 x.half, .string x.text, s1, s2, s3] 26)).alloc (.cells #[.int .i64 y.kind, .int .i64 y.half, .string y.text, r1, r2, r3] 26)).alloc (.cells #[.int .i64 0, .int .i64 0, .string ⟨#[]⟩, .slice none 0 0, .slice none 0 0, .slice none 0 0, .int .i64 0] 35)) (w.heap.size + 1) y.kind y.half y.text r1 r2 r3 := (Below.heap_alloc _ _ _ (by rw [size_alloc, size_alloc]; omega)).trans (by have := Box.new (w.alloc (.cells #[.int .i64 x.kind, .int .i64 x.half, .string x.text, s1, s2, s3] 26)) y.kind y.half y.text r1 r2 r3; rw [size_alloc] at this; exact this)
  have hrr : Box7 (((w.alloc (.cells #[.int .i64 x.kind, .int .i64 x.half, .string x.text, s1, s2, s3] 26)).alloc (.cells #[.int .i64 y.kind, .int .i64 y.half, .string y.text, r1, r2, r3] 26)).alloc (.cells #[.int .i64 0, .int .i64 0, .string ⟨#[]⟩, .slice none 0 0, .slice none 0 0, .slice none 0 0, .int .i64 0] 35)) (w.heap.size + 1 + 1) 0 0 ⟨#[]⟩ (.slice none 0 0) (.slice none 0 0) (.slice none 0 0) 0 := by have := Box7.new ((w.alloc (.cells #[.int .i64 x.kind, .int .i64 x.half, .string x.text, s1, s2, s3] 26)).alloc (.cells #[.int .i64 y.kind, .int .i64 y.half, .string y.text, r1, r2, r3] 26)) 0 0 ⟨#[]⟩ (.slice none 0 0) (.slice none 0 0) (.slice none 0 0) 0; rw [size_alloc, size_alloc] at this; exact this
  simp only [size_alloc] at H1 H2
  have HBB := Lib.hid hbb
  have HRR := Lib.hid hrr
  have HB := Lib.hid hB
  have HZ := Lib.hid hZ
  generalize x.kind = xk, x.half = xh, x.text = xt, y.kind = yk, y.half = yh, y.text = yt at *
  clear hbb hrr hB ha hb hZ hx hy
  go_enter Tryz.func37, Tryz.ntmps37
  go_upto_region 1 with fail
  go_upto_region 2 with (go_at_call 49; refine H1.out.mono ?_; rintro e w1 ⟨g1, rfl, hb1, hg1⟩)
  have hbb1 : Box w1 (w.heap.size + 1) yk yh yt r1 r2 r3 := (hb1.block _ (by omega)).trans HBB.out
  obtain ⟨x0, x1, x2, x3, x4, x5⟩ := hbb1.c
  have HB1 := Lib.hid hb1
  have HG1 := Lib.hid hg1
  clear hbb1 hb1 hg1
  go_upto_region 3 with (go_at_call 49; refine (H2.out w1 HB1.out).mono ?_; rintro e w2 ⟨g2, rfl, hb2, hg2⟩)
  have HZ2 := Lib.hid (HZ.out w2 g1 g2 (sinceOld HG1.out hb2) (hg2.mono (fun b h => h.2)))
  have HB2 := Lib.hid hb2
  clear hb2 hg2
  go_upto_region 5 with fail
  go_wp2_with (first
    | (go_at_call 68; refine HZ2.out.mono ?_; rintro e w4 ⟨g3, rfl, hb4, ha4⟩; have HF := Lib.hid (result_any a g3 w4 ha4); have HB4 := Lib.hid hb4; clear hb4 ha4)
    | (go_at_call 50; refine HF.out.mono ?_; rintro e w3 ⟨c0, c1, c2, c3, c4, c5, en, z, rfl, hb3, hjr, hres⟩; obtain ⟨rk, rh, rt, a1, n1, m1, a2, n2, m2, a3, n3, m3, rfl, rfl, rfl, rfl, rfl, rfl⟩ := hjr.shape6; have hrr3 : Box7 w3 (w.heap.size + 1 + 1) 0 0 ⟨#[]⟩ (.slice none 0 0) (.slice none 0 0) (.slice none 0 0) 0 := (hb3.block _ (by have := HB1.out.size; have := HB2.out.size; have := HB4.out.size; simp only [size_alloc] at *; omega)).trans ((HB4.out.block _ (by have := HB1.out.size; have := HB2.out.size; simp only [size_alloc] at *; omega)).trans ((HB2.out.block _ (by have := HB1.out.size; simp only [size_alloc] at *; omega)).trans ((HB1.out.block _ (by omega)).trans HRR.out))); obtain ⟨y0, y1, y2, y3, y4, y5, y6⟩ := hrr3.c; have yf := hrr3.f; have HB3 := Lib.hid hb3; have HJ := Lib.hid hjr; have HR3 := Lib.hid hrr3; have HRE := Lib.hid hres; clear hb3 hjr hrr3 hres))
  have HZZ := Lib.hid (set7_box HR3.out (k' := rk) (h' := rh) (t' := rt) (r1 := .slice a1 n1 m1) (r2 := .slice a2 n2 m2) (r3 := .slice a3 n3 m3) (en' := en)).c
  have HR : Hid (Below w.heap.size w (set7 w3 (w.heap.size + 1 + 1) (.int .i64 rk) (.int .i64 rh) (.string rt) (.slice a1 n1 m1) (.slice a2 n2 m2) (.slice a3 n3 m3) (.int .i64 en)) ∧ JRep (set7 w3 (w.heap.size + 1 + 1) (.int .i64 rk) (.int .i64 rh) (.string rt) (.slice a1 n1 m1) (.slice a2 n2 m2) (.slice a3 n3 m3) (.int .i64 en)) (since w.heap.size (set7 w3 (w.heap.size + 1 + 1) (.int .i64 rk) (.int .i64 rh) (.string rt) (.slice a1 n1 m1) (.slice a2 n2 m2) (.slice a3 n3 m3) (.int .i64 en))) z (.agg #[.int .i64 rk, .int .i64 rh, .string rt, .slice a1 n1 m1, .slice a2 n2 m2, .slice a3 n3 m3])) := by
    have q1 := HB1.out.size
    have q2 := HB2.out.size
    have q4 := HB4.out.size
    simp only [size_alloc] at q1
    have b1 : Below w.heap.size w w1 := HB.out.trans (HB1.out.mono (by omega))
    have b2 : Below w.heap.size w w2 := b1.trans (HB2.out.mono (by omega))
    have b4 : Below w.heap.size w w4 := b2.trans (HB4.out.mono (by omega))
    have b3 : Below w.heap.size w w3 := b4.trans (HB3.out.mono (by omega))
    exact Lib.hid ⟨b3.trans (below_set7 (by omega) _ _ _ _ _ _ _), HJ.out.keep (fun b hb => set7_other _ _ _ _ _ _ _ b (by have := hb.1; omega)) (fun b hb => ⟨by have := hb.1; omega, by rw [set7_size]; exact hb.2⟩)⟩
  refine bodyPost_ret (w := (set7 w3 (w.heap.size + 1 + 1) (.int .i64 rk) (.int .i64 rh) (.string rt) (.slice a1 n1 m1) (.slice a2 n2 m2) (.slice a3 n3 m3) (.int .i64 en))) (v := .agg #[.int .i64 rk, .int .i64 rh, .string rt, .slice a1 n1 m1, .slice a2 n2 m2, .slice a3 n3 m3, .int .i64 en]) ?_ rfl ?_
  · obtain ⟨y0, y1, y2, y3, y4, y5, y6⟩ := HZZ.out
    simp [results, Tryz.results37, go_sem, y0, y1, y2, y3, y4, y5, y6]
  · exact ⟨_, _, _, _, _, _, _, _, rfl, HR.out.1, HR.out.2, HRE.out⟩
end Go.Gj
