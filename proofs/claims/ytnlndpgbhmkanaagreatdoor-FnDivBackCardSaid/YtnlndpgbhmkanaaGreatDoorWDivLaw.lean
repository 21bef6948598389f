/-
  laws.FnDivBack.
-/
import Derived.Test.YtnlndpgbhmkanaaGreatDoorWZz
import Derived.Test.YtnlndpgbhmkanaaGreatDoorWDoor
namespace Go.Gj
open Go Go.RowKit Go.Proofs

theorem zzFits1_ok (v : V) (w : World) (S : Nat → Prop) (val : Value) (hS : ∀ b, S b → b < w.heap.size) (h : VRep w S v val) :
    Calls Tryz.prog 10 #[val] w fun e w' => ∃ r, e = .returned (.bool r) ∧ Below w.heap.size w w' := by
  obtain ⟨k, h0, t, l, ks, vs⟩ := v
  obtain ⟨s1, s2, s3, rfl, ht, hk, hh, h1, h2, h3⟩ := h
  obtain ⟨a1, c1, rfl, hn1, _⟩ := h1
  obtain ⟨a3, c3, rfl, hn3, _⟩ := h3
  have hsl : KSl w S ks s2 := h2
  obtain ⟨a2, c2, rfl, hn2, _⟩ := hsl.at
  unfold mostLen at ht hn1 hn2 hn3
  have hB := below1 w (.cells #[.int .i64 k, .int .i64 h0, .string t, .slice a1 l.length c1, .slice a2 ks.length c2, .slice a3 vs.length c3] 26)
  have HC := Lib.hid (zzFits2_ok ks _ S _ (lt_below hB hS) (hsl.below hB hS))
  have HB := Lib.hid hB
  have hbx := Box.new w k h0 t (.slice a1 l.length c1) (.slice a2 ks.length c2) (.slice a3 vs.length c3)
  have HBX := Lib.hid hbx
  clear hsl h2 hB hbx hk hh
  by_cases q1 : (t.size : Int) > 2147483647
  · have hq1 : decide ((2147483647 : Int) < (t.size : Int)) = true := by simp; omega
    clear q1
    go_enter Tryz.func10, Tryz.ntmps10
    go_wp2_with fail
    go_ret
    first | exact ⟨.inl rfl, HB.out⟩ | exact ⟨.inr rfl, HB.out⟩ | exact ⟨_, rfl, HB.out⟩
  · have hq1 : decide ((2147483647 : Int) < (t.size : Int)) = false := by simp; omega
    clear q1
    by_cases q2 : (l.length : Int) > 2147483647
    · have hq2 : decide ((2147483647 : Int) < (l.length : Int)) = true := by simp; omega
      clear q2
      go_enter Tryz.func10, Tryz.ntmps10
      go_wp2_with fail
      go_ret
      first | exact ⟨.inl rfl, HB.out⟩ | exact ⟨.inr rfl, HB.out⟩ | exact ⟨_, rfl, HB.out⟩
    · have hq2 : decide ((2147483647 : Int) < (l.length : Int)) = false := by simp; omega
      clear q2
      go_enter Tryz.func10, Tryz.ntmps10
      go_upto_region 5 with fail
      go_upto_region 7 with (go_at_call 46; refine HC.out.mono ?_; rintro e w' ⟨rr, rfl, hb'⟩; have hbx := (hb'.block w.heap.size (by rw [size_alloc]; omega)).trans HBX.out; obtain ⟨z0, z1, z2, z3, z4, z5⟩ := Box.c hbx; have HB' := Lib.hid (HB.out.trans (hb'.mono HB.out.size)); clear hb' hbx; cases rr)
      · go_ret
        first | exact ⟨.inl rfl, HB'.out⟩ | exact ⟨.inr rfl, HB'.out⟩ | exact ⟨_, rfl, HB'.out⟩
      · by_cases q3 : (vs.length : Int) > 2147483647
        · have hq3 : decide ((2147483647 : Int) < (vs.length : Int)) = true := by simp; omega
          clear q3
          go_wp2_with fail
          go_ret
          first | exact ⟨.inl rfl, HB'.out⟩ | exact ⟨.inr rfl, HB'.out⟩ | exact ⟨_, rfl, HB'.out⟩
        · have hq3 : decide ((2147483647 : Int) < (vs.length : Int)) = false := by simp; omega
          clear q3
          go_wp2_with fail
          go_ret
          first | exact ⟨.inl rfl, HB'.out⟩ | exact ⟨.inr rfl, HB'.out⟩ | exact ⟨_, rfl, HB'.out⟩

theorem toV_num {k h0 : Int} {t : ByteArray} {l : List V} {ks : List ByteArray} {vs : List V} (h : ∃ x : J, x.ok ∧ V.mk k h0 t l ks vs = x.toV) (hk : k = 3) : (J.num h0).ok ∧ V.mk k h0 t l ks vs = (J.num h0).toV := by
  obtain ⟨x, hx, e⟩ := h
  subst hk
  rcases x with _ | (_ | _) | n | _ | _ | ⟨_, _⟩ <;> simp only [J.toV] at e <;> (try (injection e with e1; exact absurd e1 (by decide)))
  injection e with e1 e2 e3 e4 e5 e6
  subst e2 e3 e4 e5 e6
  exact ⟨hx, rfl⟩

/-- laws.num. -/
theorem num_ok (v : V) (w : World) (S : Nat → Prop) (val : Value) (hT : Tabs w) (hS : ∀ b, S b → b < w.heap.size) (h : VRep w S v val) :
    Calls Tryz.prog 62 #[val, .int .i64 33554432] w fun e w' => ∃ r, e = .returned (.bool r) ∧ Below w.heap.size w w' ∧ (r = true → ∃ hh, (J.num hh).ok ∧ v = (J.num hh).toV ∧ -67108864 ≤ hh ∧ hh ≤ 67108864) := by
  obtain ⟨k, h0, t, l, ks, vs⟩ := v
  have h' := h
  obtain ⟨s1, s2, s3, rfl, _, hk, hh, _⟩ := h'
  have hB := below1 w (.cells #[.int .i64 k, .int .i64 h0, .string t, s1, s2, s3] 26)
  have HC := Lib.hid (Fit_ok _ _ S _ (hT.below hB) (lt_below hB hS) (VRep.keep (.of_below hB hS) (fun _ h => h) _ _ h))
  have HB := Lib.hid hB
  have HBX := Lib.hid (Box.new w k h0 t s1 s2 s3)
  clear h hB
  go_enter Tryz.func62, Tryz.ntmps62
  go_upto_region 1 with fail
  have key : ∀ (w' : World), Below (w.alloc (.cells #[.int .i64 k, .int .i64 h0, .string t, s1, s2, s3] 26)).heap.size (w.alloc (.cells #[.int .i64 k, .int .i64 h0, .string t, s1, s2, s3] 26)) w' → Box w' w.heap.size k h0 t s1 s2 s3 ∧ Below w.heap.size w w' := fun w' hb' =>
    ⟨(hb'.block w.heap.size (by rw [size_alloc]; omega)).trans HBX.out, HB.out.trans (hb'.mono HB.out.size)⟩
  have KEY := Lib.hid key
  clear key
  by_cases k3 : k = 3
  · subst k3
    by_cases hlo : -67108864 ≤ h0
    · have hlo' : decide (-67108864 ≤ h0) = true := by simp [hlo]
      by_cases hhi : h0 ≤ 67108864
      · have hhi' : decide (h0 ≤ 67108864) = true := by simp [hhi]
        have HL := Lib.hid (And.intro hlo hhi)
        clear hlo hhi hk hh
        go_wp2_with (go_at_call 47; refine HC.out.mono ?_; rintro e w' ⟨rr, rfl, hb', himp⟩; obtain ⟨hbx, hbl⟩ := KEY.out w' hb'; obtain ⟨z0, z1, z2, z3, z4, z5⟩ := hbx.c; have HP := Lib.hid himp; have HBL := Lib.hid hbl; clear hb' hbx himp hbl; cases rr)
        · exact bodyPost_ret (v := .bool false) (by simp [results, Tryz.results62, go_sem]) rfl ⟨false, rfl, HBL.out, fun e => by cases e⟩
        · exact bodyPost_ret (v := .bool true) (by simp [results, Tryz.results62, go_sem]) rfl ⟨true, rfl, HBL.out, fun _ => ⟨h0, (toV_num (HP.out (by trivial)) rfl).1, (toV_num (HP.out (by trivial)) rfl).2, HL.out.1, HL.out.2⟩⟩
      · have hhi' : decide (h0 ≤ 67108864) = false := by simp; omega
        clear hlo hhi hk hh
        go_wp2_with (go_at_call 47; refine HC.out.mono ?_; rintro e w' ⟨rr, rfl, hb', himp⟩; obtain ⟨hbx, hbl⟩ := KEY.out w' hb'; obtain ⟨z0, z1, z2, z3, z4, z5⟩ := hbx.c; have HP := Lib.hid himp; have HBL := Lib.hid hbl; clear hb' hbx himp hbl; cases rr)
        all_goals exact bodyPost_ret (v := .bool false) (by simp [results, Tryz.results62, go_sem]) rfl ⟨false, rfl, HBL.out, fun e => by cases e⟩
    · have hlo' : decide (-67108864 ≤ h0) = false := by simp; omega
      clear hlo hk hh
      go_wp2_with (go_at_call 47; refine HC.out.mono ?_; rintro e w' ⟨rr, rfl, hb', himp⟩; obtain ⟨hbx, hbl⟩ := KEY.out w' hb'; obtain ⟨z0, z1, z2, z3, z4, z5⟩ := hbx.c; have HP := Lib.hid himp; have HBL := Lib.hid hbl; clear hb' hbx himp hbl; cases rr)
      all_goals exact bodyPost_ret (v := .bool false) (by simp [results, Tryz.results62, go_sem]) rfl ⟨false, rfl, HBL.out, fun e => by cases e⟩
  · have hk3 : (k == 3) = false := by simp [k3]
    clear k3 hk hh
    go_wp2_with (go_at_call 47; refine HC.out.mono ?_; rintro e w' ⟨rr, rfl, hb', himp⟩; obtain ⟨hbx, hbl⟩ := KEY.out w' hb'; obtain ⟨z0, z1, z2, z3, z4, z5⟩ := hbx.c; have HP := Lib.hid himp; have HBL := Lib.hid hbl; clear hb' hbx himp hbl; cases rr)
    all_goals exact bodyPost_ret (v := .bool false) (by simp [results, Tryz.results62, go_sem]) rfl ⟨false, rfl, HBL.out, fun e => by cases e⟩

/-- laws.whole. -/
theorem whole_ok (v : V) (w : World) (S : Nat → Prop) (val : Value) (hT : Tabs w) (hS : ∀ b, S b → b < w.heap.size) (h : VRep w S v val) :
    Calls Tryz.prog 27 #[val, .int .i64 33554432] w fun e w' => ∃ r, e = .returned (.bool r) ∧ Below w.heap.size w w' ∧ (r = true → ∃ l, v = (J.num (2 * l)).toV ∧ -33554432 ≤ l ∧ l ≤ 33554432) := by
  obtain ⟨k, h0, t, l, ks, vs⟩ := v
  have h' := h
  obtain ⟨s1, s2, s3, rfl, _, hk, hh, _⟩ := h'
  have hB := below1 w (.cells #[.int .i64 k, .int .i64 h0, .string t, s1, s2, s3] 26)
  have HC := Lib.hid (num_ok _ _ S _ (hT.below hB) (lt_below hB hS) (VRep.keep (.of_below hB hS) (fun _ h => h) _ _ h))
  have HB := Lib.hid hB
  have HBX := Lib.hid (Box.new w k h0 t s1 s2 s3)
  clear h hB
  have key : ∀ (w' : World), Below (w.alloc (.cells #[.int .i64 k, .int .i64 h0, .string t, s1, s2, s3] 26)).heap.size (w.alloc (.cells #[.int .i64 k, .int .i64 h0, .string t, s1, s2, s3] 26)) w' → Box w' w.heap.size k h0 t s1 s2 s3 ∧ Below w.heap.size w w' := fun w' hb' =>
    ⟨(hb'.block w.heap.size (by rw [size_alloc]; omega)).trans HBX.out, HB.out.trans (hb'.mono HB.out.size)⟩
  have KEY := Lib.hid key
  clear key
  by_cases he : h0.tmod 2 = 0
  · have he' : (h0.tmod 2 == 0) = true := by simp [he]
    have HE := Lib.hid (Int.dvd_of_tmod_eq_zero he)
    clear he hk hh
    go_enter Tryz.func27, Tryz.ntmps27
    go_wp2_with (go_at_call 62; refine HC.out.mono ?_; rintro e w' ⟨rr, rfl, hb', himp⟩; obtain ⟨hbx, hbl⟩ := KEY.out w' hb'; obtain ⟨z0, z1, z2, z3, z4, z5⟩ := hbx.c; have HP := Lib.hid himp; have HBL := Lib.hid hbl; clear hb' hbx himp hbl; cases rr)
    · exact bodyPost_ret (v := .bool false) (by simp [results, Tryz.results27, go_sem]) rfl ⟨false, rfl, HBL.out, fun e => by cases e⟩
    · refine bodyPost_ret (v := .bool true) (by simp [results, Tryz.results27, go_sem]) rfl ⟨true, rfl, HBL.out, fun _ => ?_⟩
      obtain ⟨hh, _, e, p1, p2⟩ := HP.out (by trivial)
      obtain ⟨q, hq⟩ := HE.out
      have e2 : h0 = hh := by injection e
      subst e2
      exact ⟨q, by rw [← hq]; exact e, by omega, by omega⟩
  · have he' : (h0.tmod 2 == 0) = false := by simp [he]
    clear he hk hh
    go_enter Tryz.func27, Tryz.ntmps27
    go_wp2_with (go_at_call 62; refine HC.out.mono ?_; rintro e w' ⟨rr, rfl, hb', himp⟩; obtain ⟨hbx, hbl⟩ := KEY.out w' hb'; obtain ⟨z0, z1, z2, z3, z4, z5⟩ := hbx.c; have HP := Lib.hid himp; have HBL := Lib.hid hbl; clear hb' hbx himp hbl; cases rr)
    all_goals exact bodyPost_ret (v := .bool false) (by simp [results, Tryz.results27, go_sem]) rfl ⟨false, rfl, HBL.out, fun e => by cases e⟩

end Go.Gj
