/-
  laws.FnDivBack.
-/
import Derived.Test.YtnlndpgbhmkanaaGreatDoorWDivLaw
import Derived.Deep.RegionHeld3
namespace Go.Gj
open Go Go.RowKit Go.Proofs

theorem field35 (c0 c1 c2 c3 c4 c5 c6 : Value) (w : World) : (Instr.field 35 (.agg #[c0, c1, c2, c3, c4, c5, c6]) 0).run Tryz.prog w = .ok (.agg #[c0, c1, c2, c3, c4, c5]) w := by kernel_rfl

theorem prod_bound (l r : Int) (hl : -33554432 ≤ l ∧ l ≤ 33554432) (hr : -33554432 ≤ r ∧ r ≤ 33554432) : -1125899906842624 ≤ l * r ∧ l * r ≤ 1125899906842624 := by
  have h1 : (l * r).natAbs = l.natAbs * r.natAbs := Int.natAbs_mul _ _
  have h2 : l.natAbs * r.natAbs ≤ 33554432 * 33554432 := Nat.mul_le_mul (by omega) (by omega)
  omega

set_option maxHeartbeats 400000 in
set_option maxRecDepth 100000 in
/-- laws.FnDivBack: it answers true. -/
theorem FnDivBack_ok (u v : V) (w : World) (S : Nat → Prop) (va vb : Value) (hT : Tabs w) (hS : ∀ b, S b → b < w.heap.size) (ha : VRep w S u va) (hb : VRep w S v vb) :
    Calls Tryz.prog 5 #[va, vb] w fun e w' => e = .returned (.bool true) ∧ Below w.heap.size w w' := by
  obtain ⟨k, h0, t, l, ks, vs⟩ := u
  obtain ⟨k', h0', t', l', ks', vs'⟩ := v
  have ha' := ha
  have hb' := hb
  obtain ⟨s1, s2, s3, rfl, _⟩ := ha'
  obtain ⟨r1, r2, r3, rfl, _⟩ := hb'
  have hB := below2 w (.cells #[.int .i64 k, .int .i64 h0, .string t, s1, s2, s3] 26) (.cells #[.int .i64 k', .int .i64 h0', .string t', r1, r2, r3] 26)
  have key : ∀ w1, Below ((w.alloc (.cells #[.int .i64 k, .int .i64 h0, .string t, s1, s2, s3] 26)).alloc (.cells #[.int .i64 k', .int .i64 h0', .string t', r1, r2, r3] 26)).heap.size ((w.alloc (.cells #[.int .i64 k, .int .i64 h0, .string t, s1, s2, s3] 26)).alloc (.cells #[.int .i64 k', .int .i64 h0', .string t', r1, r2, r3] 26)) w1 → Below w.heap.size w w1 ∧ Tabs w1 ∧ (∀ b, S b → b < w1.heap.size) ∧ VRep w1 S (.mk k h0 t l ks vs) (.agg #[.int .i64 k, .int .i64 h0, .string t, s1, s2, s3]) ∧ VRep w1 S (.mk k' h0' t' l' ks' vs') (.agg #[.int .i64 k', .int .i64 h0', .string t', r1, r2, r3]) ∧ Box w1 w.heap.size k h0 t s1 s2 s3 ∧ Box w1 (w.heap.size + 1) k' h0' t' r1 r2 r3 := fun w1 h1 => by
    have hbl : Below w.heap.size w w1 := hB.trans (h1.mono hB.size)
    refine ⟨hbl, hT.below hbl, lt_below hbl hS, VRep.keep (.of_below hbl hS) (fun _ h => h) _ _ ha, VRep.keep (.of_below hbl hS) (fun _ h => h) _ _ hb, (h1.block _ (by rw [size_alloc, size_alloc]; omega)).trans ((Below.heap_alloc _ _ _ (by rw [size_alloc]; omega)).trans (Box.new w k h0 t s1 s2 s3)), (h1.block _ (by rw [size_alloc, size_alloc]; omega)).trans ?_⟩
    have := Box.new (w.alloc (.cells #[.int .i64 k, .int .i64 h0, .string t, s1, s2, s3] 26)) k' h0' t' r1 r2 r3
    rw [size_alloc] at this
    exact this
  have HZ1 := Lib.hid (fun w1 h1 => zzFits1_ok _ w1 S _ (key w1 h1).2.2.1 (key w1 h1).2.2.2.1)
  have HZ2 := Lib.hid (fun w1 h1 => zzFits1_ok _ w1 S _ (key w1 h1).2.2.1 (key w1 h1).2.2.2.2.1)
  have HW1 := Lib.hid (fun w1 h1 => whole_ok _ w1 S _ (key w1 h1).2.1 (key w1 h1).2.2.1 (key w1 h1).2.2.2.1)
  have HW2 := Lib.hid (fun w1 h1 => whole_ok _ w1 S _ (key w1 h1).2.1 (key w1 h1).2.2.1 (key w1 h1).2.2.2.2.1)
  have HP0 := Lib.hid (Below.refl ((w.alloc (.cells #[.int .i64 k, .int .i64 h0, .string t, s1, s2, s3] 26)).alloc (.cells #[.int .i64 k', .int .i64 h0', .string t', r1, r2, r3] 26)).heap.size ((w.alloc (.cells #[.int .i64 k, .int .i64 h0, .string t, s1, s2, s3] 26)).alloc (.cells #[.int .i64 k', .int .i64 h0', .string t', r1, r2, r3] 26)))
  have KEY := Lib.hid key
  clear key hB ha hb
  by_cases hz : h0' = 0
  · have hz' : (h0' == 0) = true := by simp [hz]
    clear hz
    go_enter Tryz.func5, Tryz.ntmps5
    go_upto_region 1 with fail
    obtain ⟨x0, x1, x2, x3, x4, x5⟩ := (KEY.out _ HP0.out).2.2.2.2.2.1.c
    obtain ⟨y0, y1, y2, y3, y4, y5⟩ := (KEY.out _ HP0.out).2.2.2.2.2.2.c
    generalize ((w.alloc (.cells #[.int .i64 k, .int .i64 h0, .string t, s1, s2, s3] 26)).alloc (.cells #[.int .i64 k', .int .i64 h0', .string t', r1, r2, r3] 26)) = W2 at *
    go_upto_region 3 with (first
      | (go_at_call 10; with_reducible refine (HZ1.out _ HP0.out).mono ?_; rintro e w1 ⟨q1, rfl, hx⟩; have HP1 := Lib.hid (HP0.out.trans (hx.mono HP0.out.size)); obtain ⟨x0, x1, x2, x3, x4, x5⟩ := (KEY.out _ HP1.out).2.2.2.2.2.1.c; obtain ⟨y0, y1, y2, y3, y4, y5⟩ := (KEY.out _ HP1.out).2.2.2.2.2.2.c; clear hx; cases q1)
      | (go_at_call 10; with_reducible refine (HZ2.out _ HP1.out).mono ?_; rintro e w2 ⟨q2, rfl, hx⟩; have HP2 := Lib.hid (HP1.out.trans (hx.mono HP1.out.size)); obtain ⟨x0, x1, x2, x3, x4, x5⟩ := (KEY.out _ HP2.out).2.2.2.2.2.1.c; obtain ⟨y0, y1, y2, y3, y4, y5⟩ := (KEY.out _ HP2.out).2.2.2.2.2.2.c; clear hx; cases q2))
    · exact bodyPost_ret (v := .bool true) (by simp [results, Tryz.results5, go_sem]) rfl ⟨rfl, (KEY.out _ HP1.out).1⟩
    · exact bodyPost_ret (v := .bool true) (by simp [results, Tryz.results5, go_sem]) rfl ⟨rfl, (KEY.out _ HP2.out).1⟩
    go_upto_region 5 with (first
      | (go_at_call 27; with_reducible refine (HW1.out _ HP2.out).mono ?_; rintro e w3 ⟨q3, rfl, hx, hi3⟩; have HP3 := Lib.hid (HP2.out.trans (hx.mono HP2.out.size)); have HI3 := Lib.hid hi3; obtain ⟨x0, x1, x2, x3, x4, x5⟩ := (KEY.out _ HP3.out).2.2.2.2.2.1.c; obtain ⟨y0, y1, y2, y3, y4, y5⟩ := (KEY.out _ HP3.out).2.2.2.2.2.2.c; clear hx hi3; cases q3)
      | (go_at_call 27; with_reducible refine (HW2.out _ HP3.out).mono ?_; rintro e w4 ⟨q4, rfl, hx, hi4⟩; have HP4 := Lib.hid (HP3.out.trans (hx.mono HP3.out.size)); have HI4 := Lib.hid hi4; obtain ⟨x0, x1, x2, x3, x4, x5⟩ := (KEY.out _ HP4.out).2.2.2.2.2.1.c; obtain ⟨y0, y1, y2, y3, y4, y5⟩ := (KEY.out _ HP4.out).2.2.2.2.2.2.c; clear hx hi4; cases q4))
    · exact bodyPost_ret (v := .bool true) (by simp [results, Tryz.results5, go_sem]) rfl ⟨rfl, (KEY.out _ HP3.out).1⟩
    · exact bodyPost_ret (v := .bool true) (by simp [results, Tryz.results5, go_sem]) rfl ⟨rfl, (KEY.out _ HP4.out).1⟩
    exact bodyPost_ret (v := .bool true) (by simp [results, Tryz.results5, go_sem]) rfl ⟨rfl, (KEY.out _ HP4.out).1⟩
  · have hz' : (h0' == 0) = false := by simp [hz]
    have HNZ := Lib.hid hz
    clear hz
    go_enter Tryz.func5, Tryz.ntmps5
    go_upto_region 1 with fail
    obtain ⟨x0, x1, x2, x3, x4, x5⟩ := (KEY.out _ HP0.out).2.2.2.2.2.1.c
    obtain ⟨y0, y1, y2, y3, y4, y5⟩ := (KEY.out _ HP0.out).2.2.2.2.2.2.c
    generalize ((w.alloc (.cells #[.int .i64 k, .int .i64 h0, .string t, s1, s2, s3] 26)).alloc (.cells #[.int .i64 k', .int .i64 h0', .string t', r1, r2, r3] 26)) = W2 at *
    go_upto_region 3 with (first
      | (go_at_call 10; with_reducible refine (HZ1.out _ HP0.out).mono ?_; rintro e w1 ⟨q1, rfl, hx⟩; have HP1 := Lib.hid (HP0.out.trans (hx.mono HP0.out.size)); obtain ⟨x0, x1, x2, x3, x4, x5⟩ := (KEY.out _ HP1.out).2.2.2.2.2.1.c; obtain ⟨y0, y1, y2, y3, y4, y5⟩ := (KEY.out _ HP1.out).2.2.2.2.2.2.c; clear hx; cases q1)
      | (go_at_call 10; with_reducible refine (HZ2.out _ HP1.out).mono ?_; rintro e w2 ⟨q2, rfl, hx⟩; have HP2 := Lib.hid (HP1.out.trans (hx.mono HP1.out.size)); obtain ⟨x0, x1, x2, x3, x4, x5⟩ := (KEY.out _ HP2.out).2.2.2.2.2.1.c; obtain ⟨y0, y1, y2, y3, y4, y5⟩ := (KEY.out _ HP2.out).2.2.2.2.2.2.c; clear hx; cases q2))
    · exact bodyPost_ret (v := .bool true) (by simp [results, Tryz.results5, go_sem]) rfl ⟨rfl, (KEY.out _ HP1.out).1⟩
    · exact bodyPost_ret (v := .bool true) (by simp [results, Tryz.results5, go_sem]) rfl ⟨rfl, (KEY.out _ HP2.out).1⟩
    go_upto_region 5 with (first
      | (go_at_call 27; with_reducible refine (HW1.out _ HP2.out).mono ?_; rintro e w3 ⟨q3, rfl, hx, hi3⟩; have HP3 := Lib.hid (HP2.out.trans (hx.mono HP2.out.size)); have HI3 := Lib.hid hi3; obtain ⟨x0, x1, x2, x3, x4, x5⟩ := (KEY.out _ HP3.out).2.2.2.2.2.1.c; obtain ⟨y0, y1, y2, y3, y4, y5⟩ := (KEY.out _ HP3.out).2.2.2.2.2.2.c; clear hx hi3; cases q3)
      | (go_at_call 27; with_reducible refine (HW2.out _ HP3.out).mono ?_; rintro e w4 ⟨q4, rfl, hx, hi4⟩; have HP4 := Lib.hid (HP3.out.trans (hx.mono HP3.out.size)); have HI4 := Lib.hid hi4; obtain ⟨x0, x1, x2, x3, x4, x5⟩ := (KEY.out _ HP4.out).2.2.2.2.2.1.c; obtain ⟨y0, y1, y2, y3, y4, y5⟩ := (KEY.out _ HP4.out).2.2.2.2.2.2.c; clear hx hi4; cases q4))
    · exact bodyPost_ret (v := .bool true) (by simp [results, Tryz.results5, go_sem]) rfl ⟨rfl, (KEY.out _ HP3.out).1⟩
    · exact bodyPost_ret (v := .bool true) (by simp [results, Tryz.results5, go_sem]) rfl ⟨rfl, (KEY.out _ HP4.out).1⟩
    obtain ⟨lq, el, bl⟩ := HI3.out (by trivial)
    obtain ⟨rq, er, br⟩ := HI4.out (by trivial)
    have hr0 : rq ≠ 0 := fun e => by
      have e2 : h0' = 2 * rq := by injection er
      exact HNZ.out (by omega)
    have hprod := prod_bound lq rq bl br
    have HMUL := Lib.hid (fun w1 (h1 : Below W2.heap.size W2 w1) => OpMul_ints lq rq bl br (by omega) w1 S (KEY.out _ h1).2.2.1 (.agg #[.int .i64 k, .int .i64 h0, .string t, s1, s2, s3]) (.agg #[.int .i64 k', .int .i64 h0', .string t', r1, r2, r3]) (by have := (KEY.out _ h1).2.2.2.1; rw [el] at this; exact this) (by have := (KEY.out _ h1).2.2.2.2.1; rw [er] at this; exact this))
    have HDIV := Lib.hid (fun w1 (h1 : Below W2.heap.size W2 w1) S' val (hS' : ∀ b, S' b → b < w1.heap.size) (hv : JRep w1 S' (.num (2 * (lq * rq))) val) => OpDiv_ints lq rq hr0 bl br (by omega) w1 (fun b => b < w1.heap.size) (fun _ h => h) val (.agg #[.int .i64 k', .int .i64 h0', .string t', r1, r2, r3]) (hv.keep (fun _ _ => rfl) hS') (by have := (KEY.out _ h1).2.2.2.2.1; rw [er] at this; exact JRep.keep (x := .num (2 * rq)) this (fun _ _ => rfl) (KEY.out _ h1).2.2.1))
    have HGIV := Lib.hid (fun w1 (h1 : Below W2.heap.size W2 w1) S' c0 c1 c2 c3 c4 c5 (hS' : ∀ b, S' b → b < w1.heap.size) (hv : JRep w1 S' (.num (2 * lq)) (.agg #[c0, c1, c2, c3, c4, c5])) => given_ok (.num (2 * lq)) (.num (2 * lq)) 0 w1 (fun b => b < w1.heap.size) c0 c1 c2 c3 c4 c5 (.agg #[.int .i64 k, .int .i64 h0, .string t, s1, s2, s3]) (show (J.num (2 * lq)).ok from ⟨by omega, by omega, .inl (by omega)⟩) (show (J.num (2 * lq)).ok from ⟨by omega, by omega, .inl (by omega)⟩) (fun _ h => h) (hv.keep (fun _ _ => rfl) hS') (by have := (KEY.out _ h1).2.2.2.1; rw [el] at this; exact JRep.keep (x := .num (2 * lq)) this (fun _ _ => rfl) (KEY.out _ h1).2.2.1) (by decide))
    have HP5 := Lib.hid HP4.out.drew
    have CELLS : Hid (∀ w1, Below W2.heap.size W2 w1 → w1.cell? ⟨w.heap.size, 0, none⟩ = some (.int .i64 k) ∧ w1.cell? ⟨w.heap.size, 1, none⟩ = some (.int .i64 h0) ∧ w1.cell? ⟨w.heap.size, 2, none⟩ = some (.string t) ∧ w1.cell? ⟨w.heap.size, 3, none⟩ = some s1 ∧ w1.cell? ⟨w.heap.size, 4, none⟩ = some s2 ∧ w1.cell? ⟨w.heap.size, 5, none⟩ = some s3 ∧ w1.cell? ⟨w.heap.size + 1, 0, none⟩ = some (.int .i64 k') ∧ w1.cell? ⟨w.heap.size + 1, 1, none⟩ = some (.int .i64 h0') ∧ w1.cell? ⟨w.heap.size + 1, 2, none⟩ = some (.string t') ∧ w1.cell? ⟨w.heap.size + 1, 3, none⟩ = some r1 ∧ w1.cell? ⟨w.heap.size + 1, 4, none⟩ = some r2 ∧ w1.cell? ⟨w.heap.size + 1, 5, none⟩ = some r3) := Lib.hid fun w1 h1 => by
      obtain ⟨q0, q1, q2, q3, q4, q5⟩ := (KEY.out _ h1).2.2.2.2.2.1.c
      obtain ⟨p0, p1, p2, p3, p4, p5⟩ := (KEY.out _ h1).2.2.2.2.2.2.c
      exact ⟨q0, q1, q2, q3, q4, q5, p0, p1, p2, p3, p4, p5⟩
    clear hprod el er bl br
    clear x0 x1 x2 x3 x4 x5 y0 y1 y2 y3 y4 y5
    have hfield := field35
    go_region_held3 (fun w1 => w1.cell? ⟨w.heap.size, 0, none⟩ = some (.int .i64 k) ∧ w1.cell? ⟨w.heap.size, 1, none⟩ = some (.int .i64 h0) ∧ w1.cell? ⟨w.heap.size, 2, none⟩ = some (.string t) ∧ w1.cell? ⟨w.heap.size, 3, none⟩ = some s1 ∧ w1.cell? ⟨w.heap.size, 4, none⟩ = some s2 ∧ w1.cell? ⟨w.heap.size, 5, none⟩ = some s3 ∧ w1.cell? ⟨w.heap.size + 1, 0, none⟩ = some (.int .i64 k') ∧ w1.cell? ⟨w.heap.size + 1, 1, none⟩ = some (.int .i64 h0') ∧ w1.cell? ⟨w.heap.size + 1, 2, none⟩ = some (.string t') ∧ w1.cell? ⟨w.heap.size + 1, 3, none⟩ = some r1 ∧ w1.cell? ⟨w.heap.size + 1, 4, none⟩ = some r2 ∧ w1.cell? ⟨w.heap.size + 1, 5, none⟩ = some r3)
      (first | with_reducible exact CELLS.out _ HP5.out | with_reducible exact CELLS.out _ HP6.out | with_reducible exact CELLS.out _ HP7.out | with_reducible exact CELLS.out _ HP8.out)
      (first
        | (go_at_call 29; refine (HMUL.out _ HP5.out).mono ?_; rintro e w6 ⟨c0, c1, c2, c3, c4, c5, rfl, hx, hj6⟩; have HP6 := Lib.hid (HP5.out.trans (hx.mono HP5.out.size)); have HJ6 := Lib.hid hj6; clear hx hj6)
        | (go_at_call 28; refine (HDIV.out _ HP6.out _ _ (fun _ h => h.2) HJ6.out).mono ?_; rintro e w7 ⟨d0, d1, d2, d3, d4, d5, rfl, hx, hj7⟩; have HP7 := Lib.hid (HP6.out.trans (hx.mono HP6.out.size)); have HJ7 := Lib.hid hj7; clear hx hj7)
        | (go_at_call 17; refine (HGIV.out _ HP7.out _ _ _ _ _ _ _ (fun _ h => h.2) HJ7.out).mono ?_; rintro e w8 ⟨rfl, hx⟩; have HP8 := Lib.hid (HP7.out.trans (hx.mono HP7.out.size)); clear hx))
    go_wp2_with fail
    exact bodyPost_ret (v := .bool true) (by simp [results, Tryz.results5, go_sem, cmpJ_self]) rfl ⟨rfl, (KEY.out _ HP8.out).1⟩
end Go.Gj
