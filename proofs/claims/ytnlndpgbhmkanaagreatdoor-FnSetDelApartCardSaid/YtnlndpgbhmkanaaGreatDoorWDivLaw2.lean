/-
  laws.zzFits1, zzFits2: they give a bool, and change nothing.
-/
import Derived.Test.YtnlndpgbhmkanaaGreatDoorWLaw
import Derived.Test.YtnlndpgbhmkanaaGreatDoorWDoor
import Derived.Deep.RegionHeld3
namespace Go.Gj
open Go Go.RowKit Go.Proofs

theorem zzFits2_ok (ks : List ByteArray) (w : World) (S : Nat → Prop) (val : Value) (hS : ∀ b, S b → b < w.heap.size) (h : KSl w S ks val) :
    Calls Tryz.prog 46 #[val] w fun e w' => ∃ r, e = .returned (.bool r) ∧ Below w.heap.size w w' := by
  obtain ⟨a, c, rfl, hn, hat⟩ := h.at
  unfold mostLen at hn
  by_cases hb : (ks.length : Int) > 2147483647
  · have hbb : decide ((2147483647 : Int) < (ks.length : Int)) = true := by simp; omega
    go_enter Tryz.func46, Tryz.ntmps46
    go_wp2_with fail
    go_ret
    exact ⟨_, rfl, Below.refl _ _⟩
  · have hbb : decide ((2147483647 : Int) < (ks.length : Int)) = false := by simp; omega
    clear hb
    go_enter Tryz.func46, Tryz.ntmps46
    go_wp2_with fail
    go_loopw [10] (fun i wr => ∃ k : Nat, k ≤ ks.length ∧ i = .int .i64 k ∧ Below w.heap.size w wr) (fun i _ => ks.length - (intOf i).toNat)
    case atStart => exact ⟨0, Nat.zero_le _, rfl, Below.refl _ _⟩
    case round =>
      obtain ⟨k, hk, rfl, hbel⟩ := hrel
      by_cases hlt : k < ks.length
      · obtain ⟨b, o, rfl, hsb, hc, hs⟩ := hat k hlt
        rw [← hbel.cell (p := ⟨b, o + k, none⟩) (hS b hsb)] at hc
        have HBe := Lib.hid hbel
        clear hbel
        unfold mostLen at hs
        by_cases hb2 : (ks[k].size : Int) > 2147483647
        · have hb3 : decide ((2147483647 : Int) < (ks[k].size : Int)) = true := by simp; omega
          go_wp2_with fail
          go_ret
          exact ⟨_, rfl, HBe.out⟩
        · have hb3 : decide ((2147483647 : Int) < (ks[k].size : Int)) = false := by simp; omega
          clear hb2
          go_wp2_with fail
          go_roundw
          case rel => exact ⟨k + 1, hlt, by go_num, HBe.out⟩
          case measure => simp [intOf]; omega
      · have he : k = ks.length := by omega
        subst he
        go_wp2_with fail
        go_ret
        exact ⟨_, rfl, hbel⟩
end Go.Gj

/-
  laws.FnDivBack.
-/
namespace Go.Gj
open Go Go.RowKit Go.Proofs

theorem zzFits1_ok (v : V) (w : World) (S : Nat → Prop) (val : Value) (hS : ∀ b, S b → b < w.heap.size) (h : VRep w S v val) :
    Calls Tryz.prog 10 #[val] w fun e w' => ∃ r, e = .returned (.bool r) ∧ Below w.heap.size w w' := by
  obtain ⟨k, h0, t, l, ks, vs⟩ := v
  obtain ⟨s1, s2, s3, rfl, ht, hk, hh, h1, h2, h3⟩ := h
  obtain ⟨a1, c1, rfl, hn1, _⟩ := h1
  obtain ⟨a3, c3, rfl, hn3, _⟩ := h3
  have hsl : KSl w S ks s2 := h2
  obtain ⟨a2, c2, rfl, hn2, _⟩ := hsl.at
  unfold mostLen at ht hn1 hn2 hn3
  have hB := below1 w (.cells #[.int .i64 k, .int .i64 h0, .string t, .slice a1 l.length c1, .slice a2 ks.length c2, .slice a3 vs.length c3] 26)
  have HC := Lib.hid (zzFits2_ok ks _ S _ (lt_below hB hS) (hsl.below hB hS))
  have HB := Lib.hid hB
  have hbx := Box.new w k h0 t (.slice a1 l.length c1) (.slice a2 ks.length c2) (.slice a3 vs.length c3)
  have HBX := Lib.hid hbx
  clear hsl h2 hB hbx hk hh
  by_cases q1 : (t.size : Int) > 2147483647
  · have hq1 : decide ((2147483647 : Int) < (t.size : Int)) = true := by simp; omega
    clear q1
    go_enter Tryz.func10, Tryz.ntmps10
    go_wp2_with fail
    go_ret
    first | exact ⟨.inl rfl, HB.out⟩ | exact ⟨.inr rfl, HB.out⟩ | exact ⟨_, rfl, HB.out⟩
  · have hq1 : decide ((2147483647 : Int) < (t.size : Int)) = false := by simp; omega
    clear q1
    by_cases q2 : (l.length : Int) > 2147483647
    · have hq2 : decide ((2147483647 : Int) < (l.length : Int)) = true := by simp; omega
      clear q2
      go_enter Tryz.func10, Tryz.ntmps10
      go_wp2_with fail
      go_ret
      first | exact ⟨.inl rfl, HB.out⟩ | exact ⟨.inr rfl, HB.out⟩ | exact ⟨_, rfl, HB.out⟩
    · have hq2 : decide ((2147483647 : Int) < (l.length : Int)) = false := by simp; omega
      clear q2
      go_enter Tryz.func10, Tryz.ntmps10
      go_upto_region 5 with fail
      go_upto_region 7 with (go_at_call 46; refine HC.out.mono ?_; rintro e w' ⟨rr, rfl, hb'⟩; have hbx := (hb'.block w.heap.size (by rw [size_alloc]; omega)).trans HBX.out; obtain ⟨z0, z1, z2, z3, z4, z5⟩ := Box.c hbx; have HB' := Lib.hid (HB.out.trans (hb'.mono HB.out.size)); clear hb' hbx; cases rr)
      · go_ret
        first | exact ⟨.inl rfl, HB'.out⟩ | exact ⟨.inr rfl, HB'.out⟩ | exact ⟨_, rfl, HB'.out⟩
      · by_cases q3 : (vs.length : Int) > 2147483647
        · have hq3 : decide ((2147483647 : Int) < (vs.length : Int)) = true := by simp; omega
          clear q3
          go_wp2_with fail
          go_ret
          first | exact ⟨.inl rfl, HB'.out⟩ | exact ⟨.inr rfl, HB'.out⟩ | exact ⟨_, rfl, HB'.out⟩
        · have hq3 : decide ((2147483647 : Int) < (vs.length : Int)) = false := by simp; omega
          clear q3
          go_wp2_with fail
          go_ret
          first | exact ⟨.inl rfl, HB'.out⟩ | exact ⟨.inr rfl, HB'.out⟩ | exact ⟨_, rfl, HB'.out⟩

theorem toV_num {k h0 : Int} {t : ByteArray} {l : List V} {ks : List ByteArray} {vs : List V} (h : ∃ x : J, x.ok ∧ V.mk k h0 t l ks vs = x.toV) (hk : k = 3) : (J.num h0).ok ∧ V.mk k h0 t l ks vs = (J.num h0).toV := by
  obtain ⟨x, hx, e⟩ := h
  subst hk
  rcases x with _ | (_ | _) | n | _ | _ | ⟨_, _⟩ <;> simp only [J.toV] at e <;> (try (injection e with e1; exact absurd e1 (by decide)))
  injection e with e1 e2 e3 e4 e5 e6
  subst e2 e3 e4 e5 e6
  exact ⟨hx, rfl⟩

/-- laws.num. -/
theorem num_ok (v : V) (w : World) (S : Nat → Prop) (val : Value) (hT : Tabs w) (hS : ∀ b, S b → b < w.heap.size) (h : VRep w S v val) :
    Calls Tryz.prog 62 #[val, .int .i64 33554432] w fun e w' => ∃ r, e = .returned (.bool r) ∧ Below w.heap.size w w' ∧ (r = true → ∃ hh, (J.num hh).ok ∧ v = (J.num hh).toV ∧ -67108864 ≤ hh ∧ hh ≤ 67108864) := by
  obtain ⟨k, h0, t, l, ks, vs⟩ := v
  have h' := h
  obtain ⟨s1, s2, s3, rfl, _, hk, hh, _⟩ := h'
  have hB := below1 w (.cells #[.int .i64 k, .int .i64 h0, .string t, s1, s2, s3] 26)
  have HC := Lib.hid (Fit_ok _ _ S _ (hT.below hB) (lt_below hB hS) (VRep.keep (.of_below hB hS) (fun _ h => h) _ _ h))
  have HB := Lib.hid hB
  have HBX := Lib.hid (Box.new w k h0 t s1 s2 s3)
  clear h hB
  go_enter Tryz.func62, Tryz.ntmps62
  go_upto_region 1 with fail
  have key : ∀ (w' : World), Below (w.alloc (.cells #[.int .i64 k, .int .i64 h0, .string t, s1, s2, s3] 26)).heap.size (w.alloc (.cells #[.int .i64 k, .int .i64 h0, .string t, s1, s2, s3] 26)) w' → Box w' w.heap.size k h0 t s1 s2 s3 ∧ Below w.heap.size w w' := fun w' hb' =>
    ⟨(hb'.block w.heap.size (by rw [size_alloc]; omega)).trans HBX.out, HB.out.trans (hb'.mono HB.out.size)⟩
  have KEY := Lib.hid key
  clear key
  by_cases k3 : k = 3
  · subst k3
    by_cases hlo : -67108864 ≤ h0
    · have hlo' : decide (-67108864 ≤ h0) = true := by simp [hlo]
      by_cases hhi : h0 ≤ 67108864
      · have hhi' : decide (h0 ≤ 67108864) = true := by simp [hhi]
        have HL := Lib.hid (And.intro hlo hhi)
        clear hlo hhi hk hh
        go_wp2_with (go_at_call 47; refine HC.out.mono ?_; rintro e w' ⟨rr, rfl, hb', himp⟩; obtain ⟨hbx, hbl⟩ := KEY.out w' hb'; obtain ⟨z0, z1, z2, z3, z4, z5⟩ := hbx.c; have HP := Lib.hid himp; have HBL := Lib.hid hbl; clear hb' hbx himp hbl; cases rr)
        · exact bodyPost_ret (v := .bool false) (by simp [results, Tryz.results62, go_sem]) rfl ⟨false, rfl, HBL.out, fun e => by cases e⟩
        · exact bodyPost_ret (v := .bool true) (by simp [results, Tryz.results62, go_sem]) rfl ⟨true, rfl, HBL.out, fun _ => ⟨h0, (toV_num (HP.out (by trivial)) rfl).1, (toV_num (HP.out (by trivial)) rfl).2, HL.out.1, HL.out.2⟩⟩
      · have hhi' : decide (h0 ≤ 67108864) = false := by simp; omega
        clear hlo hhi hk hh
        go_wp2_with (go_at_call 47; refine HC.out.mono ?_; rintro e w' ⟨rr, rfl, hb', himp⟩; obtain ⟨hbx, hbl⟩ := KEY.out w' hb'; obtain ⟨z0, z1, z2, z3, z4, z5⟩ := hbx.c; have HP := Lib.hid himp; have HBL := Lib.hid hbl; clear hb' hbx himp hbl; cases rr)
        all_goals exact bodyPost_ret (v := .bool false) (by simp [results, Tryz.results62, go_sem]) rfl ⟨false, rfl, HBL.out, fun e => by cases e⟩
    · have hlo' : decide (-67108864 ≤ h0) = false := by simp; omega
      clear hlo hk hh
      go_wp2_with (go_at_call 47; refine HC.out.mono ?_; rintro e w' ⟨rr, rfl, hb', himp⟩; obtain ⟨hbx, hbl⟩ := KEY.out w' hb'; obtain ⟨z0, z1, z2, z3, z4, z5⟩ := hbx.c; have HP := Lib.hid himp; have HBL := Lib.hid hbl; clear hb' hbx himp hbl; cases rr)
      all_goals exact bodyPost_ret (v := .bool false) (by simp [results, Tryz.results62, go_sem]) rfl ⟨false, rfl, HBL.out, fun e => by cases e⟩
  · have hk3 : (k == 3) = false := by simp [k3]
    clear k3 hk hh
    go_wp2_with (go_at_call 47; refine HC.out.mono ?_; rintro e w' ⟨rr, rfl, hb', himp⟩; obtain ⟨hbx, hbl⟩ := KEY.out w' hb'; obtain ⟨z0, z1, z2, z3, z4, z5⟩ := hbx.c; have HP := Lib.hid himp; have HBL := Lib.hid hbl; clear hb' hbx himp hbl; cases rr)
    all_goals exact bodyPost_ret (v := .bool false) (by simp [results, Tryz.results62, go_sem]) rfl ⟨false, rfl, HBL.out, fun e => by cases e⟩

/-- laws.whole. -/
theorem whole_ok (v : V) (w : World) (S : Nat → Prop) (val : Value) (hT : Tabs w) (hS : ∀ b, S b → b < w.heap.size) (h : VRep w S v val) :
    Calls Tryz.prog 27 #[val, .int .i64 33554432] w fun e w' => ∃ r, e = .returned (.bool r) ∧ Below w.heap.size w w' ∧ (r = true → ∃ l, v = (J.num (2 * l)).toV ∧ -33554432 ≤ l ∧ l ≤ 33554432) := by
  obtain ⟨k, h0, t, l, ks, vs⟩ := v
  have h' := h
  obtain ⟨s1, s2, s3, rfl, _, hk, hh, _⟩ := h'
  have hB := below1 w (.cells #[.int .i64 k, .int .i64 h0, .string t, s1, s2, s3] 26)
  have HC := Lib.hid (num_ok _ _ S _ (hT.below hB) (lt_below hB hS) (VRep.keep (.of_below hB hS) (fun _ h => h) _ _ h))
  have HB := Lib.hid hB
  have HBX := Lib.hid (Box.new w k h0 t s1 s2 s3)
  clear h hB
  have key : ∀ (w' : World), Below (w.alloc (.cells #[.int .i64 k, .int .i64 h0, .string t, s1, s2, s3] 26)).heap.size (w.alloc (.cells #[.int .i64 k, .int .i64 h0, .string t, s1, s2, s3] 26)) w' → Box w' w.heap.size k h0 t s1 s2 s3 ∧ Below w.heap.size w w' := fun w' hb' =>
    ⟨(hb'.block w.heap.size (by rw [size_alloc]; omega)).trans HBX.out, HB.out.trans (hb'.mono HB.out.size)⟩
  have KEY := Lib.hid key
  clear key
  by_cases he : h0.tmod 2 = 0
  · have he' : (h0.tmod 2 == 0) = true := by simp [he]
    have HE := Lib.hid (Int.dvd_of_tmod_eq_zero he)
    clear he hk hh
    go_enter Tryz.func27, Tryz.ntmps27
    go_wp2_with (go_at_call 62; refine HC.out.mono ?_; rintro e w' ⟨rr, rfl, hb', himp⟩; obtain ⟨hbx, hbl⟩ := KEY.out w' hb'; obtain ⟨z0, z1, z2, z3, z4, z5⟩ := hbx.c; have HP := Lib.hid himp; have HBL := Lib.hid hbl; clear hb' hbx himp hbl; cases rr)
    · exact bodyPost_ret (v := .bool false) (by simp [results, Tryz.results27, go_sem]) rfl ⟨false, rfl, HBL.out, fun e => by cases e⟩
    · refine bodyPost_ret (v := .bool true) (by simp [results, Tryz.results27, go_sem]) rfl ⟨true, rfl, HBL.out, fun _ => ?_⟩
      obtain ⟨hh, _, e, p1, p2⟩ := HP.out (by trivial)
      obtain ⟨q, hq⟩ := HE.out
      have e2 : h0 = hh := by injection e
      subst e2
      exact ⟨q, by rw [← hq]; exact e, by omega, by omega⟩
  · have he' : (h0.tmod 2 == 0) = false := by simp [he]
    clear he hk hh
    go_enter Tryz.func27, Tryz.ntmps27
    go_wp2_with (go_at_call 62; refine HC.out.mono ?_; rintro e w' ⟨rr, rfl, hb', himp⟩; obtain ⟨hbx, hbl⟩ := KEY.out w' hb'; obtain ⟨z0, z1, z2, z3, z4, z5⟩ := hbx.c; have HP := Lib.hid himp; have HBL := Lib.hid hbl; clear hb' hbx himp hbl; cases rr)
    all_goals exact bodyPost_ret (v := .bool false) (by simp [results, Tryz.results27, go_sem]) rfl ⟨false, rfl, HBL.out, fun e => by cases e⟩

end Go.Gj

/-
  laws.FnDivBack.
-/
namespace Go.Gj
open Go Go.RowKit Go.Proofs

theorem field35 (c0 c1 c2 c3 c4 c5 c6 : Value) (w : World) : (Instr.field 35 (.agg #[c0, c1, c2, c3, c4, c5, c6]) 0).run Tryz.prog w = .ok (.agg #[c0, c1, c2, c3, c4, c5]) w := by kernel_rfl

theorem prod_bound (l r : Int) (hl : -33554432 ≤ l ∧ l ≤ 33554432) (hr : -33554432 ≤ r ∧ r ≤ 33554432) : -1125899906842624 ≤ l * r ∧ l * r ≤ 1125899906842624 := by
  have h1 : (l * r).natAbs = l.natAbs * r.natAbs := Int.natAbs_mul _ _
  have h2 : l.natAbs * r.natAbs ≤ 33554432 * 33554432 := Nat.mul_le_mul (by omega) (by omega)
  omega

set_option maxHeartbeats 400000 in
set_option maxRecDepth 100000 in
/-- laws.FnDivBack: it answers true. -/
theorem FnDivBack_ok (u v : V) (w : World) (S : Nat → Prop) (va vb : Value) (hT : Tabs w) (hS : ∀ b, S b → b < w.heap.size) (ha : VRep w S u va) (hb : VRep w S v vb) :
    Calls Tryz.prog 5 #[va, vb] w fun e w' => e = .returned (.bool true) ∧ Below w.heap.size w w' := by
  obtain ⟨k, h0, t, l, ks, vs⟩ := u
  obtain ⟨k', h0', t', l', ks', vs'⟩ := v
  have ha' := ha
  have hb' := hb
  obtain ⟨s1, s2, s3, rfl, _⟩ := ha'
  obtain ⟨r1, r2, r3, rfl, _⟩ := hb'
  have hB := below2 w (.cells #[.int .i64 k, .int .i64 h0, .string t, s1, s2, s3] 26) (.cells #[.int .i64 k', .int .i64 h0', .string t', r1, r2, r3] 26)
  have key : ∀ w1, Below ((w.alloc (.cells #[.int .i64 k, .int .i64 h0, .string t, s1, s2, s3] 26)).alloc (.cells #[.int .i64 k', .int .i64 h0', .string t', r1, r2, r3] 26)).heap.size ((w.alloc (.cells #[.int .i64 k, .int .i64 h0, .string t, s1, s2, s3] 26)).alloc (.cells #[.int .i64 k', .int .i64 h0', .string t', r1, r2, r3] 26)) w1 → Below w.heap.size w w1 ∧ Tabs w1 ∧ (∀ b, S b → b < w1.heap.size) ∧ VRep w1 S (.mk k h0 t l ks vs) (.agg #[.int .i64 k, .int .i64 h0, .string t, s1, s2, s3]) ∧ VRep w1 S (.mk k' h0' t' l' ks' vs') (.agg #[.int .i64 k', .int .i64 h0', .string t', r1, r2, r3]) ∧ Box w1 w.heap.size k h0 t s1 s2 s3 ∧ Box w1 (w.heap.size + 1) k' h0' t' r1 r2 r3 := fun w1 h1 => by
    have hbl : Below w.heap.size w w1 := hB.trans (h1.mono hB.size)
    refine ⟨hbl, hT.below hbl, lt_below hbl hS, VRep.keep (.of_below hbl hS) (fun _ h => h) _ _ ha, VRep.keep (.of_below hbl hS) (fun _ h => h) _ _ hb, (h1.block _ (by rw [size_alloc, size_alloc]; omega)).trans ((Below.heap_alloc _ _ _ (by rw [size_alloc]; omega)).trans (Box.new w k h0 t s1 s2 s3)), (h1.block _ (by rw [size_alloc, size_alloc]; omega)).trans ?_⟩
    have := Box.new (w.alloc (.cells #[.int .i64 k, .int .i64 h0, .string t, s1, s2, s3] 26)) k' h0' t' r1 r2 r3
    rw [size_alloc] at this
    exact this
  have HZ1 := Lib.hid (fun w1 h1 => zzFits1_ok _ w1 S _ (key w1 h1).2.2.1 (key w1 h1).2.2.2.1)
  have HZ2 := Lib.hid (fun w1 h1 => zzFits1_ok _ w1 S _ (key w1 h1).2.2.1 (key w1 h1).2.2.2.2.1)
  have HW1 := Lib.hid (fun w1 h1 => whole_ok _ w1 S _ (key w1 h1).2.1 (key w1 h1).2.2.1 (key w1 h1).2.2.2.1)
  have HW2 := Lib.hid (fun w1 h1 => whole_ok _ w1 S _ (key w1 h1).2.1 (key w1 h1).2.2.1 (key w1 h1).2.2.2.2.1)
  have HP0 := Lib.hid (Below.refl ((w.alloc (.cells #[.int .i64 k, .int .i64 h0, .string t, s1, s2, s3] 26)).alloc (.cells #[.int .i64 k', .int .i64 h0', .string t', r1, r2, r3] 26)).heap.size ((w.alloc (.cells #[.int .i64 k, .int .i64 h0, .string t, s1, s2, s3] 26)).alloc (.cells #[.int .i64 k', .int .i64 h0', .string t', r1, r2, r3] 26)))
  have KEY := Lib.hid key
  clear key hB ha hb
  by_cases hz : h0' = 0
  · have hz' : (h0' == 0) = true := by simp [hz]
    clear hz
    go_enter Tryz.func5, Tryz.ntmps5
    go_upto_region 1 with fail
    obtain ⟨x0, x1, x2, x3, x4, x5⟩ := (KEY.out _ HP0.out).2.2.2.2.2.1.c
    obtain ⟨y0, y1, y2, y3, y4, y5⟩ := (KEY.out _ HP0.out).2.2.2.2.2.2.c
    generalize ((w.alloc (.cells #[.int .i64 k, .int .i64 h0, .string t, s1, s2, s3] 26)).alloc (.cells #[.int .i64 k', .int .i64 h0', .string t', r1, r2, r3] 26)) = W2 at *
    go_upto_region 3 with (first
      | (go_at_call 10; with_reducible refine (HZ1.out _ HP0.out).mono ?_; rintro e w1 ⟨q1, rfl, hx⟩; have HP1 := Lib.hid (HP0.out.trans (hx.mono HP0.out.size)); obtain ⟨x0, x1, x2, x3, x4, x5⟩ := (KEY.out _ HP1.out).2.2.2.2.2.1.c; obtain ⟨y0, y1, y2, y3, y4, y5⟩ := (KEY.out _ HP1.out).2.2.2.2.2.2.c; clear hx; cases q1)
      | (go_at_call 10; with_reducible refine (HZ2.out _ HP1.out).mono ?_; rintro e w2 ⟨q2, rfl, hx⟩; have HP2 := Lib.hid (HP1.out.trans (hx.mono HP1.out.size)); obtain ⟨x0, x1, x2, x3, x4, x5⟩ := (KEY.out _ HP2.out).2.2.2.2.2.1.c; obtain ⟨y0, y1, y2, y3, y4, y5⟩ := (KEY.out _ HP2.out).2.2.2.2.2.2.c; clear hx; cases q2))
    · exact bodyPost_ret (v := .bool true) (by simp [results, Tryz.results5, go_sem]) rfl ⟨rfl, (KEY.out _ HP1.out).1⟩
    · exact bodyPost_ret (v := .bool true) (by simp [results, Tryz.results5, go_sem]) rfl ⟨rfl, (KEY.out _ HP2.out).1⟩
    go_upto_region 5 with (first
      | (go_at_call 27; with_reducible refine (HW1.out _ HP2.out).mono ?_; rintro e w3 ⟨q3, rfl, hx, hi3⟩; have HP3 := Lib.hid (HP2.out.trans (hx.mono HP2.out.size)); have HI3 := Lib.hid hi3; obtain ⟨x0, x1, x2, x3, x4, x5⟩ := (KEY.out _ HP3.out).2.2.2.2.2.1.c; obtain ⟨y0, y1, y2, y3, y4, y5⟩ := (KEY.out _ HP3.out).2.2.2.2.2.2.c; clear hx hi3; cases q3)
      | (go_at_call 27; with_reducible refine (HW2.out _ HP3.out).mono ?_; rintro e w4 ⟨q4, rfl, hx, hi4⟩; have HP4 := Lib.hid (HP3.out.trans (hx.mono HP3.out.size)); have HI4 := Lib.hid hi4; obtain ⟨x0, x1, x2, x3, x4, x5⟩ := (KEY.out _ HP4.out).2.2.2.2.2.1.c; obtain ⟨y0, y1, y2, y3, y4, y5⟩ := (KEY.out _ HP4.out).2.2.2.2.2.2.c; clear hx hi4; cases q4))
    · exact bodyPost_ret (v := .bool true) (by simp [results, Tryz.results5, go_sem]) rfl ⟨rfl, (KEY.out _ HP3.out).1⟩
    · exact bodyPost_ret (v := .bool true) (by simp [results, Tryz.results5, go_sem]) rfl ⟨rfl, (KEY.out _ HP4.out).1⟩
    exact bodyPost_ret (v := .bool true) (by simp [results, Tryz.results5, go_sem]) rfl ⟨rfl, (KEY.out _ HP4.out).1⟩
  · have hz' : (h0' == 0) = false := by simp [hz]
    have HNZ := Lib.hid hz
    clear hz
    go_enter Tryz.func5, Tryz.ntmps5
    go_upto_region 1 with fail
    obtain ⟨x0, x1, x2, x3, x4, x5⟩ := (KEY.out _ HP0.out).2.2.2.2.2.1.c
    obtain ⟨y0, y1, y2, y3, y4, y5⟩ := (KEY.out _ HP0.out).2.2.2.2.2.2.c
    generalize ((w.alloc (.cells #[.int .i64 k, .int .i64 h0, .string t, s1, s2, s3] 26)).alloc (.cells #[.int .i64 k', .int .i64 h0', .string t', r1, r2, r3] 26)) = W2 at *
    go_upto_region 3 with (first
      | (go_at_call 10; with_reducible refine (HZ1.out _ HP0.out).mono ?_; rintro e w1 ⟨q1, rfl, hx⟩; have HP1 := Lib.hid (HP0.out.trans (hx.mono HP0.out.size)); obtain ⟨x0, x1, x2, x3, x4, x5⟩ := (KEY.out _ HP1.out).2.2.2.2.2.1.c; obtain ⟨y0, y1, y2, y3, y4, y5⟩ := (KEY.out _ HP1.out).2.2.2.2.2.2.c; clear hx; cases q1)
      | (go_at_call 10; with_reducible refine (HZ2.out _ HP1.out).mono ?_; rintro e w2 ⟨q2, rfl, hx⟩; have HP2 := Lib.hid (HP1.out.trans (hx.mono HP1.out.size)); obtain ⟨x0, x1, x2, x3, x4, x5⟩ := (KEY.out _ HP2.out).2.2.2.2.2.1.c; obtain ⟨y0, y1, y2, y3, y4, y5⟩ := (KEY.out _ HP2.out).2.2.2.2.2.2.c; clear hx; cases q2))
    · exact bodyPost_ret (v := .bool true) (by simp [results, Tryz.results5, go_sem]) rfl ⟨rfl, (KEY.out _ HP1.out).1⟩
    · exact bodyPost_ret (v := .bool true) (by simp [results, Tryz.results5, go_sem]) rfl ⟨rfl, (KEY.out _ HP2.out).1⟩
    go_upto_region 5 with (first
      | (go_at_call 27; with_reducible refine (HW1.out _ HP2.out).mono ?_; rintro e w3 ⟨q3, rfl, hx, hi3⟩; have HP3 := Lib.hid (HP2.out.trans (hx.mono HP2.out.size)); have HI3 := Lib.hid hi3; obtain ⟨x0, x1, x2, x3, x4, x5⟩ := (KEY.out _ HP3.out).2.2.2.2.2.1.c; obtain ⟨y0, y1, y2, y3, y4, y5⟩ := (KEY.out _ HP3.out).2.2.2.2.2.2.c; clear hx hi3; cases q3)
      | (go_at_call 27; with_reducible refine (HW2.out _ HP3.out).mono ?_; rintro e w4 ⟨q4, rfl, hx, hi4⟩; have HP4 := Lib.hid (HP3.out.trans (hx.mono HP3.out.size)); have HI4 := Lib.hid hi4; obtain ⟨x0, x1, x2, x3, x4, x5⟩ := (KEY.out _ HP4.out).2.2.2.2.2.1.c; obtain ⟨y0, y1, y2, y3, y4, y5⟩ := (KEY.out _ HP4.out).2.2.2.2.2.2.c; clear hx hi4; cases q4))
    · exact bodyPost_ret (v := .bool true) (by simp [results, Tryz.results5, go_sem]) rfl ⟨rfl, (KEY.out _ HP3.out).1⟩
    · exact bodyPost_ret (v := .bool true) (by simp [results, Tryz.results5, go_sem]) rfl ⟨rfl, (KEY.out _ HP4.out).1⟩
    obtain ⟨lq, el, bl⟩ := HI3.out (by trivial)
    obtain ⟨rq, er, br⟩ := HI4.out (by trivial)
    have hr0 : rq ≠ 0 := fun e => by
      have e2 : h0' = 2 * rq := by injection er
      exact HNZ.out (by omega)
    have hprod := prod_bound lq rq bl br
    have HMUL := Lib.hid (fun w1 (h1 : Below W2.heap.size W2 w1) => OpMul_ints lq rq bl br (by omega) w1 S (KEY.out _ h1).2.2.1 (.agg #[.int .i64 k, .int .i64 h0, .string t, s1, s2, s3]) (.agg #[.int .i64 k', .int .i64 h0', .string t', r1, r2, r3]) (by have := (KEY.out _ h1).2.2.2.1; rw [el] at this; exact this) (by have := (KEY.out _ h1).2.2.2.2.1; rw [er] at this; exact this))
    have HDIV := Lib.hid (fun w1 (h1 : Below W2.heap.size W2 w1) S' val (hS' : ∀ b, S' b → b < w1.heap.size) (hv : JRep w1 S' (.num (2 * (lq * rq))) val) => OpDiv_ints lq rq hr0 bl br (by omega) w1 (fun b => b < w1.heap.size) (fun _ h => h) val (.agg #[.int .i64 k', .int .i64 h0', .string t', r1, r2, r3]) (hv.keep (fun _ _ => rfl) hS') (by have := (KEY.out _ h1).2.2.2.2.1; rw [er] at this; exact JRep.keep (x := .num (2 * rq)) this (fun _ _ => rfl) (KEY.out _ h1).2.2.1))
    have HGIV := Lib.hid (fun w1 (h1 : Below W2.heap.size W2 w1) S' c0 c1 c2 c3 c4 c5 (hS' : ∀ b, S' b → b < w1.heap.size) (hv : JRep w1 S' (.num (2 * lq)) (.agg #[c0, c1, c2, c3, c4, c5])) => given_ok (.num (2 * lq)) (.num (2 * lq)) 0 w1 (fun b => b < w1.heap.size) c0 c1 c2 c3 c4 c5 (.agg #[.int .i64 k, .int .i64 h0, .string t, s1, s2, s3]) (show (J.num (2 * lq)).ok from ⟨by omega, by omega, .inl (by omega)⟩) (show (J.num (2 * lq)).ok from ⟨by omega, by omega, .inl (by omega)⟩) (fun _ h => h) (hv.keep (fun _ _ => rfl) hS') (by have := (KEY.out _ h1).2.2.2.1; rw [el] at this; exact JRep.keep (x := .num (2 * lq)) this (fun _ _ => rfl) (KEY.out _ h1).2.2.1) (by decide))
    have HP5 := Lib.hid HP4.out.drew
    have CELLS : Hid (∀ w1, Below W2.heap.size W2 w1 → w1.cell? ⟨w.heap.size, 0, none⟩ = some (.int .i64 k) ∧ w1.cell? ⟨w.heap.size, 1, none⟩ = some (.int .i64 h0) ∧ w1.cell? ⟨w.heap.size, 2, none⟩ = some (.string t) ∧ w1.cell? ⟨w.heap.size, 3, none⟩ = some s1 ∧ w1.cell? ⟨w.heap.size, 4, none⟩ = some s2 ∧ w1.cell? ⟨w.heap.size, 5, none⟩ = some s3 ∧ w1.cell? ⟨w.heap.size + 1, 0, none⟩ = some (.int .i64 k') ∧ w1.cell? ⟨w.heap.size + 1, 1, none⟩ = some (.int .i64 h0') ∧ w1.cell? ⟨w.heap.size + 1, 2, none⟩ = some (.string t') ∧ w1.cell? ⟨w.heap.size + 1, 3, none⟩ = some r1 ∧ w1.cell? ⟨w.heap.size + 1, 4, none⟩ = some r2 ∧ w1.cell? ⟨w.heap.size + 1, 5, none⟩ = some r3) := Lib.hid fun w1 h1 => by
      obtain ⟨q0, q1, q2, q3, q4, q5⟩ := (KEY.out _ h1).2.2.2.2.2.1.c
      obtain ⟨p0, p1, p2, p3, p4, p5⟩ := (KEY.out _ h1).2.2.2.2.2.2.c
      exact ⟨q0, q1, q2, q3, q4, q5, p0, p1, p2, p3, p4, p5⟩
    clear hprod el er bl br
    clear x0 x1 x2 x3 x4 x5 y0 y1 y2 y3 y4 y5
    have hfield := field35
    go_region_held3 (fun w1 => w1.cell? ⟨w.heap.size, 0, none⟩ = some (.int .i64 k) ∧ w1.cell? ⟨w.heap.size, 1, none⟩ = some (.int .i64 h0) ∧ w1.cell? ⟨w.heap.size, 2, none⟩ = some (.string t) ∧ w1.cell? ⟨w.heap.size, 3, none⟩ = some s1 ∧ w1.cell? ⟨w.heap.size, 4, none⟩ = some s2 ∧ w1.cell? ⟨w.heap.size, 5, none⟩ = some s3 ∧ w1.cell? ⟨w.heap.size + 1, 0, none⟩ = some (.int .i64 k') ∧ w1.cell? ⟨w.heap.size + 1, 1, none⟩ = some (.int .i64 h0') ∧ w1.cell? ⟨w.heap.size + 1, 2, none⟩ = some (.string t') ∧ w1.cell? ⟨w.heap.size + 1, 3, none⟩ = some r1 ∧ w1.cell? ⟨w.heap.size + 1, 4, none⟩ = some r2 ∧ w1.cell? ⟨w.heap.size + 1, 5, none⟩ = some r3)
      (first | with_reducible exact CELLS.out _ HP5.out | with_reducible exact CELLS.out _ HP6.out | with_reducible exact CELLS.out _ HP7.out | with_reducible exact CELLS.out _ HP8.out)
      (first
        | (go_at_call 29; refine (HMUL.out _ HP5.out).mono ?_; rintro e w6 ⟨c0, c1, c2, c3, c4, c5, rfl, hx, hj6⟩; have HP6 := Lib.hid (HP5.out.trans (hx.mono HP5.out.size)); have HJ6 := Lib.hid hj6; clear hx hj6)
        | (go_at_call 28; refine (HDIV.out _ HP6.out _ _ (fun _ h => h.2) HJ6.out).mono ?_; rintro e w7 ⟨d0, d1, d2, d3, d4, d5, rfl, hx, hj7⟩; have HP7 := Lib.hid (HP6.out.trans (hx.mono HP6.out.size)); have HJ7 := Lib.hid hj7; clear hx hj7)
        | (go_at_call 17; refine (HGIV.out _ HP7.out _ _ _ _ _ _ _ (fun _ h => h.2) HJ7.out).mono ?_; rintro e w8 ⟨rfl, hx⟩; have HP8 := Lib.hid (HP7.out.trans (hx.mono HP7.out.size)); clear hx))
    go_wp2_with fail
    exact bodyPost_ret (v := .bool true) (by simp [results, Tryz.results5, go_sem, cmpJ_self]) rfl ⟨rfl, (KEY.out _ HP8.out).1⟩
end Go.Gj
