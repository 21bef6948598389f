/-
  spec.Whole, place, Get.
-/
import Derived.Test.YtnlndpgbhmkanaaGreatDoorLookL
import Derived.Test.YtnlndpgbhmkanaaGreatDoorWFitB
import Derived.Test.YtnlndpgbhmkanaaGreatDoorWRes
namespace Go.Gj
set_option linter.unusedSimpArgs false
set_option linter.unusedVariables false
set_option linter.unnecessarySimpa false
open Go Go.RowKit Go.Proofs

theorem Whole_even (h : Int) (he : h % 2 = 0) (w : World) (S : Nat → Prop) (val : Value) (hr : JRep w S (.num h) val) :
    Calls Tryz.prog 41 #[val] w fun e w' => e = .returned (.tuple #[.int .i64 (h / 2), .bool true]) ∧ Below w.heap.size w w' := by
  obtain ⟨s1, s2, s3, rfl, _⟩ := hr.parts
  simp only [J.kind, J.half, J.text] at *
  have HB := Lib.hid (below1 w (.cells #[.int .i64 3, .int .i64 h, .string ⟨#[]⟩, s1, s2, s3] 26))
  have hr3 : -9223372036854775808 ≤ h ∧ h ≤ 9223372036854775807 := by
    obtain ⟨_, _, _, hv, _, _, hh, _⟩ := hr
    simp only [Value.agg.injEq, Array.mk.injEq, List.cons.injEq, Value.int.injEq, true_and] at hv
    exact hh
  have hdv : (2 : Int) ∣ h := by omega
  have e1 : h.tdiv 2 = h / 2 := Int.tdiv_eq_ediv_of_dvd hdv
  have e2 : h.tmod 2 = 0 := Int.tmod_eq_zero_of_dvd hdv
  clear hr hdv he
  go_enter Tryz.func41, Tryz.ntmps41
  go_wp2_with fail
  exact bodyPost_ret (v := .tuple #[.int .i64 (h / 2), .bool true]) (by simp [results, Tryz.results41, go_sem]) rfl ⟨rfl, HB.out⟩

theorem pk_true {ks : List ByteArray} {s : ByteArray} {k : Nat} (e : k = placeK ks s) (h : k < ks.length) (he : ks[k] = s) : (true = true ↔ ∃ h : placeK ks s < ks.length, ks[placeK ks s] = s) := by
  subst e; exact ⟨fun _ => ⟨h, he⟩, fun _ => rfl⟩
theorem pk_false {ks : List ByteArray} {s : ByteArray} {k : Nat} (e : k = placeK ks s) (h : ¬ ∃ h : k < ks.length, ks[k] = s) : (false = true ↔ ∃ h : placeK ks s < ks.length, ks[placeK ks s] = s) := by
  subst e; exact ⟨fun h' => (Bool.noConfusion h'), fun h' => absurd h' h⟩

set_option maxHeartbeats 400000 in
set_option maxRecDepth 100000 in
theorem place_ok (ks : List ByteArray) (vs : List J) (hri : rises ks) (hl : ks.length ≤ lim) (s : ByteArray) (w : World) (S : Nat → Prop) (val : Value) (hS : ∀ b, S b → b < w.heap.size) (hr : JRep w S (.obj ks vs) val) :
    Calls Tryz.prog 98 #[val, .string s] w fun e w' => ∃ q : Bool, e = .returned (.tuple #[.int .i64 (placeK ks s), .bool q]) ∧ Below w.heap.size w w' ∧ (q = true ↔ ∃ h : placeK ks s < ks.length, ks[placeK ks s] = s) := by
  obtain ⟨s1, s2, s3, rfl, _, j1, j2, j3⟩ := hr.parts
  simp only [J.kind, J.half, J.text, J.list, J.keys, J.vals] at *
  obtain ⟨a1, c1, rfl, _⟩ := j1.at
  obtain ⟨a2, c2, rfl, hn2, hat⟩ := j2.at
  obtain ⟨a3, c3, rfl, _⟩ := j3.at
  have HB := Lib.hid (below1 w (.cells #[.int .i64 6, .int .i64 0, .string ⟨#[]⟩, .slice a1 0 c1, .slice a2 ks.length c2, .slice a3 vs.length c3] 26))
  have HBX := Lib.hid (Box.new w 6 0 ⟨#[]⟩ (.slice a1 0 c1) (.slice a2 ks.length c2) (.slice a3 vs.length c3))
  have HAT := Lib.hid hat
  unfold lim at hl
  clear j1 j2 j3 hr hat hn2
  go_enter Tryz.func98, Tryz.ntmps98
  go_wp2_with fail
  go_loopw [6] (fun i wr => ∃ k : Nat, k ≤ ks.length ∧ i = .int .i64 k ∧ Below (w.heap.size + 1) (w.alloc (.cells #[.int .i64 6, .int .i64 0, .string ⟨#[]⟩, .slice a1 0 c1, .slice a2 ks.length c2, .slice a3 vs.length c3] 26)) wr ∧ ∀ j (hj : j < ks.length), j < k → slt ks[j] s = true) (fun i _ => ks.length - (intOf i).toNat)
  case atStart => exact ⟨0, Nat.zero_le _, rfl, Below.refl _ _, fun j hj h => absurd h (Nat.not_lt_zero _)⟩
  case round =>
    obtain ⟨k, hk, rfl, hbel, hlow⟩ := hrel
    have hbx : Box wr w.heap.size 6 0 ⟨#[]⟩ (.slice a1 0 c1) (.slice a2 ks.length c2) (.slice a3 vs.length c3) := (hbel.block _ (by omega)).trans HBX.out
    obtain ⟨z0, z1, z2, z3, z4, z5⟩ := hbx.c
    have HBe := Lib.hid hbel
    have HLOW := Lib.hid hlow
    clear hbel hbx hlow
    by_cases hlt : k < ks.length
    · obtain ⟨b, o, rfl, hsb, hc, hs⟩ := HAT.out k hlt
      rw [← HB.out.cell (p := ⟨b, o + k, none⟩) (hS b hsb), ← HBe.out.cell (p := ⟨b, o + k, none⟩) (Nat.lt_succ_of_lt (hS b hsb))] at hc
      cases hls : slt ks[k] s with
      | true =>
        have hls' : Op.bytesLess ks[k].toList s.toList = true := hls
        have HL := Lib.hid hls
        clear hls
        go_wp2_with fail
        go_roundw
        case rel => exact ⟨k + 1, hlt, by go_num, HBe.out, fun j hj h => by
          rcases Nat.lt_succ_iff_lt_or_eq.1 h with h | rfl
          · exact HLOW.out j hj h
          · exact HL.out⟩
        case measure => simp [intOf]; omega
      | false =>
        have hls' : Op.bytesLess ks[k].toList s.toList = false := hls
        have HPK := Lib.hid (placeK_eq ks s k hk HLOW.out (.inr ⟨hlt, hls⟩))
        clear hls
        by_cases he : ks[k] = s
        · have hee : (ks[k].toList == s.toList) = true := by rw [he]; simp
          have HE := Lib.hid he
          clear he
          go_wp2_with fail
          go_quiet (fail)
          go_wp2_with fail
          refine bodyPost_ret (v := .tuple #[.int .i64 k, .bool true]) (by simp [results, Tryz.results98, go_sem]) rfl ?_
          exact ⟨true, by rw [HPK.out], below_drewN (HB.out.trans (HBe.out.mono (Nat.le_succ _))) _, pk_true HPK.out hlt HE.out⟩
        · have hee : (ks[k].toList == s.toList) = false := by
            rw [beq_eq_false_iff_ne]; exact fun h => he (ba_toList_inj h)
          have HE := Lib.hid he
          clear he
          go_wp2_with fail
          go_quiet (fail)
          go_wp2_with fail
          refine bodyPost_ret (v := .tuple #[.int .i64 k, .bool false]) (by simp [results, Tryz.results98, go_sem]) rfl ?_
          exact ⟨false, by rw [HPK.out], below_drewN (HB.out.trans (HBe.out.mono (Nat.le_succ _))) _, pk_false HPK.out (fun ⟨_, h⟩ => HE.out h)⟩
    · have HPK := Lib.hid (placeK_eq ks s k hk HLOW.out (.inl (by omega)))
      go_wp2_with fail
      go_quiet (fail)
      go_wp2_with fail
      refine bodyPost_ret (v := .tuple #[.int .i64 k, .bool false]) (by simp [results, Tryz.results98, go_sem]) rfl ?_
      exact ⟨false, by rw [HPK.out], below_drewN (HB.out.trans (HBe.out.mono (Nat.le_succ _))) _, pk_false HPK.out (fun ⟨h, _⟩ => hlt h)⟩

/-- The record of noughts. -/
def zero6 : Value := .agg #[.int .i64 0, .int .i64 0, .string ⟨#[]⟩, .slice none 0 0, .slice none 0 0, .slice none 0 0]

set_option maxHeartbeats 400000 in
set_option maxRecDepth 100000 in
theorem Get_ok (ks : List ByteArray) (vs : List J) (hri : rises ks) (hl : ks.length ≤ lim) (hkv : ks.length = vs.length) (s : ByteArray) (w : World) (S : Nat → Prop) (val : Value) (hS : ∀ b, S b → b < w.heap.size) (hr : JRep w S (.obj ks vs) val) :
    Calls Tryz.prog 74 #[val, .string s] w fun e w' => ∃ c0 c1 c2 c3 c4 c5, e = .returned (.agg #[c0, c1, c2, c3, c4, c5]) ∧ Below w.heap.size w w' ∧ JRep w' S (getK ks vs s) (.agg #[c0, c1, c2, c3, c4, c5]) := by
  have hr0 := hr
  obtain ⟨s1, s2, s3, rfl, _, j1, j2, j3⟩ := hr.parts
  simp only [J.kind, J.half, J.text, J.list, J.keys, J.vals, List.length_nil] at *
  obtain ⟨a1, c1, rfl, _⟩ := j1.at
  obtain ⟨a2, c2, rfl, _, _⟩ := j2.at
  obtain ⟨a3, c3, rfl, hn3, hat⟩ := j3.at
  simp only [List.length_nil] at hr0
  have hB := below2 w (.cells #[.int .i64 6, .int .i64 0, .string ⟨#[]⟩, .slice a1 0 c1, .slice a2 ks.length c2, .slice a3 vs.length c3] 26) (.cells #[.int .i64 0, .int .i64 0, .string ⟨#[]⟩, .slice none 0 0, .slice none 0 0, .slice none 0 0] 26)
  have HC := Lib.hid (place_ok ks vs hri hl s _ S _ (lt_below hB hS) (hr0.below hB hS))
  have HB := Lib.hid hB
  have hbx : Box ((w.alloc (.cells #[.int .i64 6, .int .i64 0, .string ⟨#[]⟩, .slice a1 0 c1, .slice a2 ks.length c2, .slice a3 vs.length c3] 26)).alloc (.cells #[.int .i64 0, .int .i64 0, .string ⟨#[]⟩, .slice none 0 0, .slice none 0 0, .slice none 0 0] 26)) w.heap.size 6 0 ⟨#[]⟩ (.slice a1 0 c1) (.slice a2 ks.length c2) (.slice a3 vs.length c3) := (Below.heap_alloc _ _ _ (by rw [World.size_alloc]; omega)).trans (Box.new w 6 0 ⟨#[]⟩ (.slice a1 0 c1) (.slice a2 ks.length c2) (.slice a3 vs.length c3))
  have hby : Box ((w.alloc (.cells #[.int .i64 6, .int .i64 0, .string ⟨#[]⟩, .slice a1 0 c1, .slice a2 ks.length c2, .slice a3 vs.length c3] 26)).alloc (.cells #[.int .i64 0, .int .i64 0, .string ⟨#[]⟩, .slice none 0 0, .slice none 0 0, .slice none 0 0] 26)) (w.heap.size + 1) 0 0 ⟨#[]⟩ (.slice none 0 0) (.slice none 0 0) (.slice none 0 0) := by
    have := Box.new (w.alloc (.cells #[.int .i64 6, .int .i64 0, .string ⟨#[]⟩, .slice a1 0 c1, .slice a2 ks.length c2, .slice a3 vs.length c3] 26)) 0 0 ⟨#[]⟩ (.slice none 0 0) (.slice none 0 0) (.slice none 0 0)
    rw [World.size_alloc] at this
    exact this
  have HX := Lib.hid hbx
  have HY := Lib.hid hby
  have HAT := Lib.hid hat
  clear j1 j2 j3 hr hr0 hat hn3 hB hbx hby
  have HS := Lib.hid (fun b (hb : S b) => hS b hb)
  clear hS
  have HKV := Lib.hid hkv
  have HRI := Lib.hid hri
  clear hkv hri hl
  by_cases hq : ∃ h : placeK ks s < ks.length, ks[placeK ks s] = s
  · obtain ⟨hlt, he⟩ := hq
    obtain ⟨b, o, rfl, hsb, d0, d1, d2, d3, d4, d5, g0, g1, g2, g3, g4, g5, hj⟩ := HAT.out (placeK ks s) (by have := HKV.out; omega)
    have G := fun o => HB.out.cell (p := ⟨b, o, none⟩) (HS.out b hsb)
    rw [← G] at g0 g1 g2 g3 g4 g5
    have HJ : Hid (JRep w S (getK ks vs s) (.agg #[d0, d1, d2, d3, d4, d5])) := by rw [getK_place HRI.out HKV.out hlt he]; exact Lib.hid hj
    obtain ⟨rk, rh, rt, b1, n1, m1, b2, n2, m2, b3, n3, m3, rfl, rfl, rfl, rfl, rfl, rfl⟩ := (show JRep w S vs[placeK ks s] _ from hj).shape6
    have HQ : Hid (∃ h : placeK ks s < ks.length, ks[placeK ks s] = s) := Lib.hid ⟨hlt, he⟩
    have hpv : placeK ks s < vs.length := by have := HKV.out; omega
    clear hj G he hlt
    go_enter Tryz.func74, Tryz.ntmps74
    go_upto_region 1 with fail
    obtain ⟨x0, x1, x2, x3, x4, x5⟩ := HX.out.c
    generalize hW : ((w.alloc (.cells #[.int .i64 6, .int .i64 0, .string ⟨#[]⟩, .slice a1 0 c1, .slice a2 ks.length c2, .slice (some ⟨b, o, none⟩) vs.length c3] 26)).alloc (.cells #[.int .i64 0, .int .i64 0, .string ⟨#[]⟩, .slice none 0 0, .slice none 0 0, .slice none 0 0] 26)) = W2 at *
    have hsz : W2.heap.size = w.heap.size + 2 := by rw [← hW, World.size_alloc, World.size_alloc]
    clear hW
    go_upto_region 3 with (go_at_call 98; refine HC.out.mono ?_; rintro e w' ⟨q, rfl, hb', hq⟩; obtain rfl : q = true := (hq.2 HQ.out); have hbx : Box w' w.heap.size 6 0 ⟨#[]⟩ (.slice a1 0 c1) (.slice a2 ks.length c2) (.slice (some ⟨b, o, none⟩) vs.length c3) := (hb'.block w.heap.size (by omega)).trans HX.out; have hby : Box w' (w.heap.size + 1) 0 0 ⟨#[]⟩ (.slice none 0 0) (.slice none 0 0) (.slice none 0 0) := (hb'.block (w.heap.size + 1) (by omega)).trans HY.out; obtain ⟨z0, z1, z2, z3, z4, z5⟩ := Box.c hbx; obtain ⟨y0, y1, y2, y3, y4, y5⟩ := Box.c hby; have yf := Box.f hby; have G2 := fun o => hb'.cell (p := ⟨b, o, none⟩) (show b < W2.heap.size by have := HS.out b hsb; omega); rw [← G2] at g0 g1 g2 g3 g4 g5; have HBB := Lib.hid hb'; have HBY := Lib.hid hby; clear hb' hbx hby hq G2)
    go_wp2_with fail
    have HZZ := Lib.hid (set6_box HBY.out (k' := rk) (h' := rh) (t' := rt) (r1 := .slice b1 n1 m1) (r2 := .slice b2 n2 m2) (r3 := .slice b3 n3 m3)).c
    refine bodyPost_ret (w := set6 w' (w.heap.size + 1) (.int .i64 rk) (.int .i64 rh) (.string rt) (.slice b1 n1 m1) (.slice b2 n2 m2) (.slice b3 n3 m3)) (v := .agg #[.int .i64 rk, .int .i64 rh, .string rt, .slice b1 n1 m1, .slice b2 n2 m2, .slice b3 n3 m3]) ?_ rfl ?_
    · obtain ⟨y0, y1, y2, y3, y4, y5⟩ := HZZ.out
      simp [results, Tryz.results74, go_sem, y0, y1, y2, y3, y4, y5]
    · have hbw : Below w.heap.size w (set6 w' (w.heap.size + 1) (.int .i64 rk) (.int .i64 rh) (.string rt) (.slice b1 n1 m1) (.slice b2 n2 m2) (.slice b3 n3 m3)) := (HB.out.trans (HBB.out.mono HB.out.size)).trans (below_set6 (by omega) _ _ _ _ _ _)
      exact ⟨_, _, _, _, _, _, rfl, hbw, HJ.out.below hbw HS.out⟩
  · have HJ : Hid (getK ks vs s = .null) := Lib.hid (getK_noplace HRI.out hq)
    have HQ := Lib.hid hq
    clear hq
    go_enter Tryz.func74, Tryz.ntmps74
    go_upto_region 1 with fail
    obtain ⟨x0, x1, x2, x3, x4, x5⟩ := HX.out.c
    generalize hW : ((w.alloc (.cells #[.int .i64 6, .int .i64 0, .string ⟨#[]⟩, .slice a1 0 c1, .slice a2 ks.length c2, .slice a3 vs.length c3] 26)).alloc (.cells #[.int .i64 0, .int .i64 0, .string ⟨#[]⟩, .slice none 0 0, .slice none 0 0, .slice none 0 0] 26)) = W2 at *
    have hsz : W2.heap.size = w.heap.size + 2 := by rw [← hW, World.size_alloc, World.size_alloc]
    clear hW
    go_wp2_with (go_at_call 98; refine HC.out.mono ?_; rintro e w' ⟨q, rfl, hb', hq⟩; obtain rfl : q = false := (by cases q with | false => rfl | true => exact absurd (hq.1 rfl) HQ.out); have hby : Box w' (w.heap.size + 1) 0 0 ⟨#[]⟩ (.slice none 0 0) (.slice none 0 0) (.slice none 0 0) := (hb'.block (w.heap.size + 1) (by omega)).trans HY.out; obtain ⟨y0, y1, y2, y3, y4, y5⟩ := Box.c hby; have yf := Box.f hby; have HBB := Lib.hid hb'; have HBY := Lib.hid hby; clear hb' hby hq)
    have HZZ := Lib.hid (set6_box HBY.out (k' := 0) (h' := 0) (t' := ⟨#[]⟩) (r1 := .slice none 0 0) (r2 := .slice none 0 0) (r3 := .slice none 0 0)).c
    refine bodyPost_ret (w := set6 w' (w.heap.size + 1) (.int .i64 0) (.int .i64 0) (.string ⟨#[]⟩) (.slice none 0 0) (.slice none 0 0) (.slice none 0 0)) (v := zero6) ?_ rfl ?_
    · obtain ⟨y0, y1, y2, y3, y4, y5⟩ := HZZ.out
      simp [zero6, results, Tryz.results74, go_sem, y0, y1, y2, y3, y4, y5]
    · have hbw : Below w.heap.size w (set6 w' (w.heap.size + 1) (.int .i64 0) (.int .i64 0) (.string ⟨#[]⟩) (.slice none 0 0) (.slice none 0 0) (.slice none 0 0)) := (HB.out.trans (HBB.out.mono HB.out.size)).trans (below_set6 (by omega) _ _ _ _ _ _)
      rw [HJ.out]
      exact ⟨_, _, _, _, _, _, rfl, hbw, jrep_null _ _⟩
end Go.Gj
