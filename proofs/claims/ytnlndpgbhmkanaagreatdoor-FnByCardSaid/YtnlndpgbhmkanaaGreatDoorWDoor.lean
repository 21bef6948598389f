/-
  gojq's product and quotient at integers.
-/
import Derived.Test.YtnlndpgbhmkanaaGreatDoorWRes
namespace Go.Gj
open Go Go.RowKit Go.Proofs

theorem negate_ok (n : Int) (h1 : -4611686018427387904 ≤ n) (h2 : n ≤ 4611686018427387904) (w : World) : Calls Tryz.prog 118 #[.int .i64 n] w fun e w' => e = .returned (.iface 3 (.int .i64 (-n))) ∧ w' = w := by
  have hb : (n == -9223372036854775808) = false := by simp; omega
  go_enter Tryz.func118, Tryz.ntmps118
  go_wp2_with fail
  go_ret
  exact ⟨rfl, rfl⟩

theorem mul_ints (l r : Int) (hl : -4611686018427387904 ≤ l ∧ l ≤ 4611686018427387904) (h1 : -4611686018427387904 ≤ l * r) (h2 : l * r ≤ 4611686018427387904) (w : World) : Calls Tryz.prog 129 #[.int .i64 l, .int .i64 r] w fun e w' => e = .returned (.iface 3 (.int .i64 (l * r))) ∧ w' = w := by
  by_cases hr : r = -1
  · subst hr
    have HC := Lib.hid (negate_ok l hl.1 hl.2 w)
    go_enter Tryz.func129, Tryz.ntmps129
    go_wp2_with (go_at_call 118; refine HC.out.mono ?_; rintro e w' ⟨rfl, rfl⟩)
    go_ret
    have e : l * -1 = -l := by omega
    exact ⟨by rw [e]; rfl, rfl⟩
  · have hb : (r == -1) = false := by simp [hr]
    by_cases h0 : r = 0
    · subst h0
      go_enter Tryz.func129, Tryz.ntmps129
      go_wp2_with fail
      go_ret
      exact ⟨by simp, rfl⟩
    · have hb0 : (r == 0) = false := by simp [h0]
      have hd : (l * r).tdiv r = l := Int.mul_tdiv_cancel _ h0
      have hw : wrap64 (l * r) = l * r := (by unfold wrap64; omega)
      have hw2 : wrap64 l = l := (by unfold wrap64; omega)
      have hbd : (wrap64 ((wrap64 (l * r)).tdiv r) == l) = true := by rw [hw, hd, hw2]; simp
      clear hr hd h1 h2 hl hbd
      go_enter Tryz.func129, Tryz.ntmps129
      go_wp2_with fail
      go_ret
      exact ⟨by simp [hw], rfl⟩
end Go.Gj

/-
  gojq's product and quotient at integers: the switch, the functions, the doors.
-/
namespace Go.Gj
open Go Go.RowKit Go.Proofs

theorem div_ints (q r : Int) (hr : r ≠ 0) (hq : -4611686018427387904 ≤ q ∧ q ≤ 4611686018427387904) (h1 : -4611686018427387904 ≤ q * r) (h2 : q * r ≤ 4611686018427387904) (w : World) : Calls Tryz.prog 117 #[.int .i64 (q * r), .int .i64 r] w fun e w' => e = .returned (.iface 3 (.int .i64 q)) ∧ w' = w := by
  have hb0 : (r == 0) = false := by simp [hr]
  by_cases hm : r = -1
  · subst hm
    have e : q * -1 = -q := by omega
    rw [e] at h1 h2 ⊢
    have HC := Lib.hid (negate_ok (-q) h1 h2 w)
    go_enter Tryz.func117, Tryz.ntmps117
    go_wp2_with (go_at_call 118; refine HC.out.mono ?_; rintro e w' ⟨rfl, rfl⟩)
    go_ret
    exact ⟨by simp, rfl⟩
  · have hb : (r == -1) = false := by simp [hm]
    have hd : (q * r).tdiv r = q := Int.mul_tdiv_cancel _ hr
    have ht : (q * r).tmod r = 0 := Int.mul_tmod_left _ _
    have hw2 : wrap64 q = q := by unfold wrap64; omega
    clear hm
    generalize q * r = v at *
    clear h1 h2 hq
    go_enter Tryz.func117, Tryz.ntmps117
    go_wp2_with fail
    go_ret
    exact ⟨by simp, rfl⟩

set_option maxRecDepth 100000 in
theorem switch_mul (l r : Int) (hl : -4611686018427387904 ≤ l ∧ l ≤ 4611686018427387904) (h1 : -4611686018427387904 ≤ l * r) (h2 : l * r ≤ 4611686018427387904) (c2 c3 c4 c5 c6 c7 : Value) (w : World) :
    Calls Tryz.prog 116 #[.iface 3 (.int .i64 l), .iface 3 (.int .i64 r), .func (.func 129) #[] #[], c2, c3, c4, c5, c6, c7] w fun e w' => e = .returned (.iface 3 (.int .i64 (l * r))) ∧ w' = w := by
  have HC := Lib.hid (mul_ints l r hl h1 h2)
  clear h1 h2 hl
  go_enter Tryz.func116, Tryz.ntmps116
  go_wp2_with (go_at_call 129; refine (HC.out _).mono ?_; rintro e w' ⟨rfl, rfl⟩)
  go_ret
  exact ⟨by simp, rfl⟩

set_option maxRecDepth 100000 in
theorem switch_div (q r : Int) (hr : r ≠ 0) (hq : -4611686018427387904 ≤ q ∧ q ≤ 4611686018427387904) (h1 : -4611686018427387904 ≤ q * r) (h2 : q * r ≤ 4611686018427387904) (c2 c3 c4 c5 c6 c7 : Value) (w : World) :
    Calls Tryz.prog 116 #[.iface 3 (.int .i64 (q * r)), .iface 3 (.int .i64 r), .func (.func 117) #[] #[], c2, c3, c4, c5, c6, c7] w fun e w' => e = .returned (.iface 3 (.int .i64 q)) ∧ w' = w := by
  have HC := Lib.hid (div_ints q r hr hq h1 h2)
  clear h1 h2 hq
  generalize q * r = v at *
  go_enter Tryz.func116, Tryz.ntmps116
  go_wp2_with (go_at_call 117; refine (HC.out _).mono ?_; rintro e w' ⟨rfl, rfl⟩)
  go_ret
  exact ⟨by simp, rfl⟩

theorem funcOpMul_ints (a l r) (hl : -4611686018427387904 ≤ l ∧ l ≤ 4611686018427387904) (h1 : -4611686018427387904 ≤ l * r) (h2 : l * r ≤ 4611686018427387904) (w : World) :
    Calls Tryz.prog 88 #[a, .iface 3 (.int .i64 l), .iface 3 (.int .i64 r)] w fun e w' => e = .returned (.iface 3 (.int .i64 (l * r))) ∧ w' = w := by
  have HC := Lib.hid (fun c2 c3 c4 c5 c6 c7 => switch_mul l r hl h1 h2 c2 c3 c4 c5 c6 c7 w)
  clear h1 h2 hl
  go_enter Tryz.func88, Tryz.ntmps88
  go_wp2_with (go_at_call 116; refine (HC.out _ _ _ _ _ _).mono ?_; rintro e w' ⟨rfl, rfl⟩)
  go_ret
  exact ⟨by simp, rfl⟩

theorem funcOpDiv_ints (a) (q r : Int) (hr : r ≠ 0) (hq : -4611686018427387904 ≤ q ∧ q ≤ 4611686018427387904) (h1 : -4611686018427387904 ≤ q * r) (h2 : q * r ≤ 4611686018427387904) (w : World) :
    Calls Tryz.prog 87 #[a, .iface 3 (.int .i64 (q * r)), .iface 3 (.int .i64 r)] w fun e w' => e = .returned (.iface 3 (.int .i64 q)) ∧ w' = w := by
  have HC := Lib.hid (fun c2 c3 c4 c5 c6 c7 => switch_div q r hr hq h1 h2 c2 c3 c4 c5 c6 c7 w)
  clear h1 h2 hq
  generalize q * r = v at *
  go_enter Tryz.func87, Tryz.ntmps87
  go_wp2_with (go_at_call 116; refine (HC.out _ _ _ _ _ _).mono ?_; rintro e w' ⟨rfl, rfl⟩)
  go_ret
  exact ⟨by simp, rfl⟩

theorem ZzOpMul_ints (l r : Int) (hl : -4611686018427387904 ≤ l ∧ l ≤ 4611686018427387904) (h1 : -4611686018427387904 ≤ l * r) (h2 : l * r ≤ 4611686018427387904) (w : World) :
    Calls Tryz.prog 64 #[.iface 3 (.int .i64 l), .iface 3 (.int .i64 r)] w fun e w' => e = .returned (.iface 3 (.int .i64 (l * r))) ∧ w' = w := by
  have HC := Lib.hid (funcOpMul_ints .nilIface l r hl h1 h2 w)
  clear h1 h2 hl
  go_enter Tryz.func64, Tryz.ntmps64
  go_wp2_with (go_at_call 88; refine HC.out.mono ?_; rintro e w' ⟨rfl, rfl⟩)
  go_ret
  exact ⟨by simp, rfl⟩

theorem ZzOpDiv_ints (q r : Int) (hr : r ≠ 0) (hq : -4611686018427387904 ≤ q ∧ q ≤ 4611686018427387904) (h1 : -4611686018427387904 ≤ q * r) (h2 : q * r ≤ 4611686018427387904) (w : World) :
    Calls Tryz.prog 63 #[.iface 3 (.int .i64 (q * r)), .iface 3 (.int .i64 r)] w fun e w' => e = .returned (.iface 3 (.int .i64 q)) ∧ w' = w := by
  have HC := Lib.hid (funcOpDiv_ints .nilIface q r hr hq h1 h2 w)
  clear h1 h2 hq
  generalize q * r = v at *
  go_enter Tryz.func63, Tryz.ntmps63
  go_wp2_with (go_at_call 87; refine HC.out.mono ?_; rintro e w' ⟨rfl, rfl⟩)
  go_ret
  exact ⟨by simp, rfl⟩
end Go.Gj

/-
  The doors OpMul, OpDiv at integers.
-/
namespace Go.Gj
open Go Go.RowKit Go.Proofs

/-- What a door gives: a record in new memory. -/
def Gives (w : World) (x : J) (e : Ending) (w' : World) : Prop :=
  ∃ c0 c1 c2 c3 c4 c5, e = .returned (.agg #[c0, c1, c2, c3, c4, c5, .int .i64 0]) ∧ Below w.heap.size w w' ∧ JRep w' (since w.heap.size w') x (.agg #[c0, c1, c2, c3, c4, c5])

theorem num_even {w : World} {S : Nat → Prop} {l : Int} {v : Value} (h : ARep w S (.num (2 * l)) v) : v = .iface 3 (.int .i64 l) := by
  rcases h with ⟨_, _, _, rfl⟩ | ⟨h, _⟩
  · rw [show 2 * l / 2 = l by omega]
  · omega
theorem num_rep (w : World) (S : Nat → Prop) (l : Int) (h1 : -2305843009213693952 ≤ l) (h2 : l ≤ 2305843009213693952) : ARep w S (.num (2 * l)) (.iface 3 (.int .i64 l)) :=
  .inl ⟨by omega, by omega, by omega, by rw [show 2 * l / 2 = l by omega]⟩

set_option maxHeartbeats 2000000 in
set_option maxRecDepth 100000 in
theorem OpMul_ints (l r : Int) (hl : -33554432 ≤ l ∧ l ≤ 33554432) (hr : -33554432 ≤ r ∧ r ≤ 33554432) (hm : -2305843009213693952 ≤ l * r ∧ l * r ≤ 2305843009213693952) (w : World) (S : Nat → Prop) (hS : ∀ b, S b → b < w.heap.size) (va vb : Value) (ha : JRep w S (.num (2 * l)) va) (hb : JRep w S (.num (2 * r)) vb) :
    Calls Tryz.prog 29 #[va, vb] w (Gives w (.num (2 * (l * r)))) := by
  obtain ⟨s1, s2, s3, rfl, _⟩ := ha.parts
  obtain ⟨r1, r2, r3, rfl, _⟩ := hb.parts
  have hB := below3 w (.cells #[.int .i64 3, .int .i64 (2 * l), .string ⟨#[]⟩, s1, s2, s3] 26) (.cells #[.int .i64 3, .int .i64 (2 * r), .string ⟨#[]⟩, r1, r2, r3] 26) (.cells #[.int .i64 0, .int .i64 0, .string ⟨#[]⟩, .slice none 0 0, .slice none 0 0, .slice none 0 0, .int .i64 0] 35)
  have H1 := Lib.hid (toGo_ok (.num (2 * l)) _ S _ (show (J.num (2 * l)).ok from ⟨by omega, by omega, .inl (by omega)⟩) (lt_below hB hS) (ha.below hB hS))
  have H2 := Lib.hid (fun w' (hb' : Below (((w.alloc (.cells #[.int .i64 3, .int .i64 (2 * l), .string ⟨#[]⟩, s1, s2, s3] 26)).alloc (.cells #[.int .i64 3, .int .i64 (2 * r), .string ⟨#[]⟩, r1, r2, r3] 26)).alloc (.cells #[.int .i64 0, .int .i64 0, .string ⟨#[]⟩, .slice none 0 0, .slice none 0 0, .slice none 0 0, .int .i64 0] 35)).heap.size (((w.alloc (.cells #[.int .i64 3, .int .i64 (2 * l), .string ⟨#[]⟩, s1, s2, s3] 26)).alloc (.cells #[.int .i64 3, .int .i64 (2 * r), .string ⟨#[]⟩, r1, r2, r3] 26)).alloc (.cells #[.int .i64 0, .int .i64 0, .string ⟨#[]⟩, .slice none 0 0, .slice none 0 0, .slice none 0 0, .int .i64 0] 35)) w') => toGo_ok (.num (2 * r)) w' S _ (show (J.num (2 * r)).ok from ⟨by omega, by omega, .inl (by omega)⟩) (lt_below (hB.trans (hb'.mono hB.size)) hS) (hb.below (hB.trans (hb'.mono hB.size)) hS))
  simp only [J.kind, J.half, J.text] at *
  have hbb : Box (((w.alloc (.cells #[.int .i64 3, .int .i64 (2 * l), .string ⟨#[]⟩, s1, s2, s3] 26)).alloc (.cells #[.int .i64 3, .int .i64 (2 * r), .string ⟨#[]⟩, r1, r2, r3] 26)).alloc (.cells #[.int .i64 0, .int .i64 0, .string ⟨#[]⟩, .slice none 0 0, .slice none 0 0, .slice none 0 0, .int .i64 0] 35)) (w.heap.size + 1) 3 (2 * r) ⟨#[]⟩ r1 r2 r3 := (Below.heap_alloc _ _ _ (by rw [size_alloc, size_alloc]; omega)).trans (by have := Box.new (w.alloc (.cells #[.int .i64 3, .int .i64 (2 * l), .string ⟨#[]⟩, s1, s2, s3] 26)) 3 (2 * r) ⟨#[]⟩ r1 r2 r3; rw [size_alloc] at this; exact this)
  have hrr : Box7 (((w.alloc (.cells #[.int .i64 3, .int .i64 (2 * l), .string ⟨#[]⟩, s1, s2, s3] 26)).alloc (.cells #[.int .i64 3, .int .i64 (2 * r), .string ⟨#[]⟩, r1, r2, r3] 26)).alloc (.cells #[.int .i64 0, .int .i64 0, .string ⟨#[]⟩, .slice none 0 0, .slice none 0 0, .slice none 0 0, .int .i64 0] 35)) (w.heap.size + 1 + 1) 0 0 ⟨#[]⟩ (.slice none 0 0) (.slice none 0 0) (.slice none 0 0) 0 := by have := Box7.new ((w.alloc (.cells #[.int .i64 3, .int .i64 (2 * l), .string ⟨#[]⟩, s1, s2, s3] 26)).alloc (.cells #[.int .i64 3, .int .i64 (2 * r), .string ⟨#[]⟩, r1, r2, r3] 26)) 0 0 ⟨#[]⟩ (.slice none 0 0) (.slice none 0 0) (.slice none 0 0) 0; rw [size_alloc, size_alloc] at this; exact this
  simp only [size_alloc] at H1 H2
  have HBB := Lib.hid hbb
  have HRR := Lib.hid hrr
  have HB := Lib.hid hB
  have HZ := Lib.hid (ZzOpMul_ints l r (by omega) (by omega) (by omega))
  have HF := Lib.hid (fun w' => result_ok (.num (2 * (l * r))) trivial (fg_num _) w' (fun _ => False) (.iface 3 (.int .i64 (l * r))) (fun _ h => h.elim) (num_rep w' _ (l * r) (by omega) (by omega)))
  clear hbb hrr hB ha hb hm
  go_enter Tryz.func29, Tryz.ntmps29
  go_upto_region 1 with fail
  go_upto_region 2 with (go_at_call 49; refine H1.out.mono ?_; rintro e w1 ⟨g1, rfl, hb1, hg1⟩; obtain rfl := num_even hg1; clear hg1)
  have hbb1 : Box w1 (w.heap.size + 1) 3 (2 * r) ⟨#[]⟩ r1 r2 r3 := (hb1.block _ (by omega)).trans HBB.out
  obtain ⟨x0, x1, x2, x3, x4, x5⟩ := hbb1.c
  have HB1 := Lib.hid hb1
  clear hbb1 hb1
  go_upto_region 3 with (go_at_call 49; refine (H2.out w1 HB1.out).mono ?_; rintro e w2 ⟨g2, rfl, hb2, hg2⟩; obtain rfl := num_even hg2; clear hg2)
  go_upto_region 5 with fail
  have HB2 := Lib.hid hb2
  clear hb2
  go_wp2_with (first
    | (go_at_call 64; refine (HZ.out _).mono ?_; rintro e w2 ⟨rfl, rfl⟩)
    | (go_at_call 50; refine (HF.out _).mono ?_; rintro e w3 ⟨c0, c1, c2, c3, c4, c5, rfl, hb3, hjr⟩; obtain ⟨rk, rh, rt, a1, n1, m1, a2, n2, m2, a3, n3, m3, rfl, rfl, rfl, rfl, rfl, rfl⟩ := hjr.shape6; have hrr3 : Box7 w3 (w.heap.size + 1 + 1) 0 0 ⟨#[]⟩ (.slice none 0 0) (.slice none 0 0) (.slice none 0 0) 0 := (hb3.block _ (by have := HB1.out.size; have := HB2.out.size; simp only [size_alloc] at *; omega)).trans ((HB2.out.block _ (by have := HB1.out.size; simp only [size_alloc] at *; omega)).trans ((HB1.out.block _ (by omega)).trans HRR.out)); obtain ⟨y0, y1, y2, y3, y4, y5, y6⟩ := hrr3.c; have yf := hrr3.f; have HB3 := Lib.hid hb3; have HJ := Lib.hid hjr; have HR3 := Lib.hid hrr3; clear hb3 hjr hrr3))
  have HZZ := Lib.hid (set7_box HR3.out (k' := rk) (h' := rh) (t' := rt) (r1 := .slice a1 n1 m1) (r2 := .slice a2 n2 m2) (r3 := .slice a3 n3 m3) (en' := 0)).c
  have HR : Hid (Below w.heap.size w (set7 w3 (w.heap.size + 1 + 1) (.int .i64 rk) (.int .i64 rh) (.string rt) (.slice a1 n1 m1) (.slice a2 n2 m2) (.slice a3 n3 m3) (.int .i64 0)) ∧ JRep (set7 w3 (w.heap.size + 1 + 1) (.int .i64 rk) (.int .i64 rh) (.string rt) (.slice a1 n1 m1) (.slice a2 n2 m2) (.slice a3 n3 m3) (.int .i64 0)) (since w.heap.size (set7 w3 (w.heap.size + 1 + 1) (.int .i64 rk) (.int .i64 rh) (.string rt) (.slice a1 n1 m1) (.slice a2 n2 m2) (.slice a3 n3 m3) (.int .i64 0))) (.num (2 * (l * r))) (.agg #[.int .i64 rk, .int .i64 rh, .string rt, .slice a1 n1 m1, .slice a2 n2 m2, .slice a3 n3 m3])) := by
    have q1 := HB1.out.size
    have q2 := HB2.out.size
    simp only [size_alloc] at q1
    have b1 : Below w.heap.size w w1 := HB.out.trans (HB1.out.mono (by omega))
    have b2 : Below w.heap.size w w2 := b1.trans (HB2.out.mono (by omega))
    have b3 : Below w.heap.size w w3 := b2.trans (HB3.out.mono (by omega))
    exact Lib.hid ⟨b3.trans (below_set7 (by omega) _ _ _ _ _ _ _), HJ.out.keep (fun b hb => set7_other _ _ _ _ _ _ _ b (by have := hb.1; omega)) (fun b hb => ⟨by have := hb.1; omega, by rw [set7_size]; exact hb.2⟩)⟩
  refine bodyPost_ret (w := (set7 w3 (w.heap.size + 1 + 1) (.int .i64 rk) (.int .i64 rh) (.string rt) (.slice a1 n1 m1) (.slice a2 n2 m2) (.slice a3 n3 m3) (.int .i64 0))) (v := .agg #[.int .i64 rk, .int .i64 rh, .string rt, .slice a1 n1 m1, .slice a2 n2 m2, .slice a3 n3 m3, .int .i64 0]) ?_ rfl ?_
  · obtain ⟨y0, y1, y2, y3, y4, y5, y6⟩ := HZZ.out
    simp [results, Tryz.results29, go_sem, y0, y1, y2, y3, y4, y5, y6]
  · exact ⟨_, _, _, _, _, _, rfl, HR.out.1, HR.out.2⟩

set_option maxHeartbeats 2000000 in
set_option maxRecDepth 100000 in
theorem OpDiv_ints (q r : Int) (hr0 : r ≠ 0) (hl : -33554432 ≤ q ∧ q ≤ 33554432) (hr : -33554432 ≤ r ∧ r ≤ 33554432) (hm : -4503599627370496 ≤ q * r ∧ q * r ≤ 4503599627370496) (w : World) (S : Nat → Prop) (hS : ∀ b, S b → b < w.heap.size) (va vb : Value) (ha : JRep w S (.num (2 * (q * r))) va) (hb : JRep w S (.num (2 * r)) vb) :
    Calls Tryz.prog 28 #[va, vb] w (Gives w (.num (2 * (q)))) := by
  obtain ⟨s1, s2, s3, rfl, _⟩ := ha.parts
  obtain ⟨r1, r2, r3, rfl, _⟩ := hb.parts
  have hB := below3 w (.cells #[.int .i64 3, .int .i64 (2 * (q * r)), .string ⟨#[]⟩, s1, s2, s3] 26) (.cells #[.int .i64 3, .int .i64 (2 * r), .string ⟨#[]⟩, r1, r2, r3] 26) (.cells #[.int .i64 0, .int .i64 0, .string ⟨#[]⟩, .slice none 0 0, .slice none 0 0, .slice none 0 0, .int .i64 0] 35)
  have H1 := Lib.hid (toGo_ok (.num (2 * (q * r))) _ S _ (show (J.num (2 * (q * r))).ok from ⟨by omega, by omega, .inl (by omega)⟩) (lt_below hB hS) (ha.below hB hS))
  have H2 := Lib.hid (fun w' (hb' : Below (((w.alloc (.cells #[.int .i64 3, .int .i64 (2 * (q * r)), .string ⟨#[]⟩, s1, s2, s3] 26)).alloc (.cells #[.int .i64 3, .int .i64 (2 * r), .string ⟨#[]⟩, r1, r2, r3] 26)).alloc (.cells #[.int .i64 0, .int .i64 0, .string ⟨#[]⟩, .slice none 0 0, .slice none 0 0, .slice none 0 0, .int .i64 0] 35)).heap.size (((w.alloc (.cells #[.int .i64 3, .int .i64 (2 * (q * r)), .string ⟨#[]⟩, s1, s2, s3] 26)).alloc (.cells #[.int .i64 3, .int .i64 (2 * r), .string ⟨#[]⟩, r1, r2, r3] 26)).alloc (.cells #[.int .i64 0, .int .i64 0, .string ⟨#[]⟩, .slice none 0 0, .slice none 0 0, .slice none 0 0, .int .i64 0] 35)) w') => toGo_ok (.num (2 * r)) w' S _ (show (J.num (2 * r)).ok from ⟨by omega, by omega, .inl (by omega)⟩) (lt_below (hB.trans (hb'.mono hB.size)) hS) (hb.below (hB.trans (hb'.mono hB.size)) hS))
  simp only [J.kind, J.half, J.text] at *
  have hbb : Box (((w.alloc (.cells #[.int .i64 3, .int .i64 (2 * (q * r)), .string ⟨#[]⟩, s1, s2, s3] 26)).alloc (.cells #[.int .i64 3, .int .i64 (2 * r), .string ⟨#[]⟩, r1, r2, r3] 26)).alloc (.cells #[.int .i64 0, .int .i64 0, .string ⟨#[]⟩, .slice none 0 0, .slice none 0 0, .slice none 0 0, .int .i64 0] 35)) (w.heap.size + 1) 3 (2 * r) ⟨#[]⟩ r1 r2 r3 := (Below.heap_alloc _ _ _ (by rw [size_alloc, size_alloc]; omega)).trans (by have := Box.new (w.alloc (.cells #[.int .i64 3, .int .i64 (2 * (q * r)), .string ⟨#[]⟩, s1, s2, s3] 26)) 3 (2 * r) ⟨#[]⟩ r1 r2 r3; rw [size_alloc] at this; exact this)
  have hrr : Box7 (((w.alloc (.cells #[.int .i64 3, .int .i64 (2 * (q * r)), .string ⟨#[]⟩, s1, s2, s3] 26)).alloc (.cells #[.int .i64 3, .int .i64 (2 * r), .string ⟨#[]⟩, r1, r2, r3] 26)).alloc (.cells #[.int .i64 0, .int .i64 0, .string ⟨#[]⟩, .slice none 0 0, .slice none 0 0, .slice none 0 0, .int .i64 0] 35)) (w.heap.size + 1 + 1) 0 0 ⟨#[]⟩ (.slice none 0 0) (.slice none 0 0) (.slice none 0 0) 0 := by have := Box7.new ((w.alloc (.cells #[.int .i64 3, .int .i64 (2 * (q * r)), .string ⟨#[]⟩, s1, s2, s3] 26)).alloc (.cells #[.int .i64 3, .int .i64 (2 * r), .string ⟨#[]⟩, r1, r2, r3] 26)) 0 0 ⟨#[]⟩ (.slice none 0 0) (.slice none 0 0) (.slice none 0 0) 0; rw [size_alloc, size_alloc] at this; exact this
  simp only [size_alloc] at H1 H2
  have HBB := Lib.hid hbb
  have HRR := Lib.hid hrr
  have HB := Lib.hid hB
  have HZ := Lib.hid (ZzOpDiv_ints q r hr0 (by omega) (by omega) (by omega))
  have HF := Lib.hid (fun w' => result_ok (.num (2 * (q))) trivial (fg_num _) w' (fun _ => False) (.iface 3 (.int .i64 (q))) (fun _ h => h.elim) (num_rep w' _ q (by omega) (by omega)))
  clear hbb hrr hB ha hb hm
  generalize hp : q * r = p at *
  clear hp
  go_enter Tryz.func28, Tryz.ntmps28
  go_upto_region 1 with fail
  go_upto_region 2 with (go_at_call 49; refine H1.out.mono ?_; rintro e w1 ⟨g1, rfl, hb1, hg1⟩; obtain rfl := num_even hg1; clear hg1)
  have hbb1 : Box w1 (w.heap.size + 1) 3 (2 * r) ⟨#[]⟩ r1 r2 r3 := (hb1.block _ (by omega)).trans HBB.out
  obtain ⟨x0, x1, x2, x3, x4, x5⟩ := hbb1.c
  have HB1 := Lib.hid hb1
  clear hbb1 hb1
  go_upto_region 3 with (go_at_call 49; refine (H2.out w1 HB1.out).mono ?_; rintro e w2 ⟨g2, rfl, hb2, hg2⟩; obtain rfl := num_even hg2; clear hg2)
  go_upto_region 5 with fail
  have HB2 := Lib.hid hb2
  clear hb2
  go_wp2_with (first
    | (go_at_call 63; refine (HZ.out _).mono ?_; rintro e w2 ⟨rfl, rfl⟩)
    | (go_at_call 50; refine (HF.out _).mono ?_; rintro e w3 ⟨c0, c1, c2, c3, c4, c5, rfl, hb3, hjr⟩; obtain ⟨rk, rh, rt, a1, n1, m1, a2, n2, m2, a3, n3, m3, rfl, rfl, rfl, rfl, rfl, rfl⟩ := hjr.shape6; have hrr3 : Box7 w3 (w.heap.size + 1 + 1) 0 0 ⟨#[]⟩ (.slice none 0 0) (.slice none 0 0) (.slice none 0 0) 0 := (hb3.block _ (by have := HB1.out.size; have := HB2.out.size; simp only [size_alloc] at *; omega)).trans ((HB2.out.block _ (by have := HB1.out.size; simp only [size_alloc] at *; omega)).trans ((HB1.out.block _ (by omega)).trans HRR.out)); obtain ⟨y0, y1, y2, y3, y4, y5, y6⟩ := hrr3.c; have yf := hrr3.f; have HB3 := Lib.hid hb3; have HJ := Lib.hid hjr; have HR3 := Lib.hid hrr3; clear hb3 hjr hrr3))
  have HZZ := Lib.hid (set7_box HR3.out (k' := rk) (h' := rh) (t' := rt) (r1 := .slice a1 n1 m1) (r2 := .slice a2 n2 m2) (r3 := .slice a3 n3 m3) (en' := 0)).c
  have HR : Hid (Below w.heap.size w (set7 w3 (w.heap.size + 1 + 1) (.int .i64 rk) (.int .i64 rh) (.string rt) (.slice a1 n1 m1) (.slice a2 n2 m2) (.slice a3 n3 m3) (.int .i64 0)) ∧ JRep (set7 w3 (w.heap.size + 1 + 1) (.int .i64 rk) (.int .i64 rh) (.string rt) (.slice a1 n1 m1) (.slice a2 n2 m2) (.slice a3 n3 m3) (.int .i64 0)) (since w.heap.size (set7 w3 (w.heap.size + 1 + 1) (.int .i64 rk) (.int .i64 rh) (.string rt) (.slice a1 n1 m1) (.slice a2 n2 m2) (.slice a3 n3 m3) (.int .i64 0))) (.num (2 * (q))) (.agg #[.int .i64 rk, .int .i64 rh, .string rt, .slice a1 n1 m1, .slice a2 n2 m2, .slice a3 n3 m3])) := by
    have q1 := HB1.out.size
    have q2 := HB2.out.size
    simp only [size_alloc] at q1
    have b1 : Below w.heap.size w w1 := HB.out.trans (HB1.out.mono (by omega))
    have b2 : Below w.heap.size w w2 := b1.trans (HB2.out.mono (by omega))
    have b3 : Below w.heap.size w w3 := b2.trans (HB3.out.mono (by omega))
    exact Lib.hid ⟨b3.trans (below_set7 (by omega) _ _ _ _ _ _ _), HJ.out.keep (fun b hb => set7_other _ _ _ _ _ _ _ b (by have := hb.1; omega)) (fun b hb => ⟨by have := hb.1; omega, by rw [set7_size]; exact hb.2⟩)⟩
  refine bodyPost_ret (w := (set7 w3 (w.heap.size + 1 + 1) (.int .i64 rk) (.int .i64 rh) (.string rt) (.slice a1 n1 m1) (.slice a2 n2 m2) (.slice a3 n3 m3) (.int .i64 0))) (v := .agg #[.int .i64 rk, .int .i64 rh, .string rt, .slice a1 n1 m1, .slice a2 n2 m2, .slice a3 n3 m3, .int .i64 0]) ?_ rfl ?_
  · obtain ⟨y0, y1, y2, y3, y4, y5, y6⟩ := HZZ.out
    simp [results, Tryz.results28, go_sem, y0, y1, y2, y3, y4, y5, y6]
  · exact ⟨_, _, _, _, _, _, rfl, HR.out.1, HR.out.2⟩
end Go.Gj
