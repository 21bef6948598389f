/-
  spec.GetPath: it tells where the reference is silent.
-/
import Derived.Test.YtnlndpgbhmkanaaGreatDoorWSpecD
import Derived.Test.YtnlndpgbhmkanaaGreatDoorWGetP
namespace Go.Gj
set_option linter.unusedSimpArgs false
set_option linter.unusedVariables false
set_option linter.unnecessarySimpa false
open Go Go.RowKit Go.Proofs

theorem Box.bl {w w' : World} {B : Nat} {k h : Int} {t : ByteArray} {s1 s2 s3 : Value} (hb : Box w B k h t s1 s2 s3) (h' : Below w.heap.size w w') : Box w' B k h t s1 s2 s3 :=
  (h'.block B (World.block_lt_of_cell? w _ hb.c.1)).trans hb

set_option maxHeartbeats 4000000 in
set_option maxRecDepth 100000 in
theorem SpecGetPath_ok (v : J) (p : List J) (hv : v.ok) (hkk : ∀ k ∈ p, keyOk k) (hlen : p.length ≤ 1000000) (w : World) (S : Nat → Prop) (va pa : Value) (hS : ∀ b, S b → b < w.heap.size) (ha : JRep w S v va) (hp : JSl w S p pa) :
    Calls Tryz.prog 14 #[va, pa] w fun e w' => ∃ (c0 c1 : Int) (c2 : ByteArray) (q1 : Option Addr) (u1 v1 : Nat) (q2 : Option Addr) (u2 v2 : Nat) (q3 : Option Addr) (u3 v3 : Nat) (how : Int), e = .returned (.tuple #[.agg #[.int .i64 c0, .int .i64 c1, .string c2, .slice q1 u1 v1, .slice q2 u2 v2, .slice q3 u3 v3], .int .i64 how]) ∧ Below w.heap.size w w' ∧ (how = 2 ∨ (silJ v p = false ∧ (how = 0 ∨ how = 1))) := by
  have ha0 := ha
  obtain ⟨a1, n1, a2, n2, a3, n3, rfl⟩ := ha.shapeA
  have hp0 := hp
  obtain ⟨pb, pc, hpa, _, hat⟩ := hp.at
  clear hp hp0
  subst hpa
  have HB := Lib.hid (below2 w (.cells #[.int .i64 v.kind, .int .i64 v.half, .string v.text, .slice a1 v.list.length n1, .slice a2 v.keys.length n2, .slice a3 v.vals.length n3] 26) (.cells #[.int .i64 0, .int .i64 0, .string ⟨#[]⟩, .slice none 0 0, .slice none 0 0, .slice none 0 0] 26))
  have hbx : Box ((w.alloc (.cells #[.int .i64 v.kind, .int .i64 v.half, .string v.text, .slice a1 v.list.length n1, .slice a2 v.keys.length n2, .slice a3 v.vals.length n3] 26)).alloc (.cells #[.int .i64 0, .int .i64 0, .string ⟨#[]⟩, .slice none 0 0, .slice none 0 0, .slice none 0 0] 26)) w.heap.size v.kind v.half v.text (.slice a1 v.list.length n1) (.slice a2 v.keys.length n2) (.slice a3 v.vals.length n3) := (Below.heap_alloc _ _ _ (by rw [World.size_alloc]; omega)).trans (Box.new w v.kind v.half v.text (.slice a1 v.list.length n1) (.slice a2 v.keys.length n2) (.slice a3 v.vals.length n3))
  have hby : Box ((w.alloc (.cells #[.int .i64 v.kind, .int .i64 v.half, .string v.text, .slice a1 v.list.length n1, .slice a2 v.keys.length n2, .slice a3 v.vals.length n3] 26)).alloc (.cells #[.int .i64 0, .int .i64 0, .string ⟨#[]⟩, .slice none 0 0, .slice none 0 0, .slice none 0 0] 26)) (w.heap.size + 1) 0 0 ⟨#[]⟩ (.slice none 0 0) (.slice none 0 0) (.slice none 0 0) := by
    have := Box.new (w.alloc (.cells #[.int .i64 v.kind, .int .i64 v.half, .string v.text, .slice a1 v.list.length n1, .slice a2 v.keys.length n2, .slice a3 v.vals.length n3] 26)) 0 0 ⟨#[]⟩ (.slice none 0 0) (.slice none 0 0) (.slice none 0 0)
    rw [World.size_alloc] at this
    exact this
  have HJ0 := Lib.hid (ha0.below HB.out hS)
  have HX := Lib.hid hbx
  have HY := Lib.hid hby
  have HS := Lib.hid (fun b (hb : S b) => hS b hb)
  have HAT := Lib.hid hat
  have HV := Lib.hid hv
  have HK := Lib.hid hkk
  clear hbx hby ha ha0 hat hS hv hkk
  go_enter Tryz.func14, Tryz.ntmps14
  go_wp2_with fail
  go_loopw [12] (fun i wr => ∃ (k : Nat) (x : J) (a1 : Option Addr) (n1 : Nat) (a2 : Option Addr) (n2 : Nat) (a3 : Option Addr) (n3 : Nat), k ≤ p.length ∧ i = .int .i64 k ∧ Box wr w.heap.size x.kind x.half x.text (.slice a1 x.list.length n1) (.slice a2 x.keys.length n2) (.slice a3 x.vals.length n3) ∧ Box wr (w.heap.size + 1) 0 0 ⟨#[]⟩ (.slice none 0 0) (.slice none 0 0) (.slice none 0 0) ∧ JRep wr S x (.agg #[.int .i64 x.kind, .int .i64 x.half, .string x.text, .slice a1 x.list.length n1, .slice a2 x.keys.length n2, .slice a3 x.vals.length n3]) ∧ x.ok ∧ Below w.heap.size w wr ∧ silJ x (p.drop k) = silJ v p) (fun i _ => p.length - (intOf i).toNat)
  case atStart => exact ⟨0, v, a1, n1, a2, n2, a3, n3, Nat.zero_le _, rfl, HX.out, HY.out, HJ0.out, HV.out, HB.out, rfl⟩
  case round =>
    obtain ⟨k, x, a1, n1, a2, n2, a3, n3, hk1, rfl, hbx, hby, hj, hxo, hbel, hsil⟩ := hrel
    have hszx : w.heap.size + 1 < wr.heap.size := (World.block_lt_of_cell? wr _ hby.c.1)
    obtain ⟨x0, x1, x2, x3, x4, x5⟩ := hbx.c
    obtain ⟨y0, y1, y2, y3, y4, y5⟩ := hby.c
    by_cases hlt : k < p.length
    · obtain ⟨b1, o1, rfl, hs1, d0, d1, d2, d3, d4, d5, g0, g1, g2, g3, g4, g5, hr1⟩ := HAT.out k hlt
      have G := fun o => hbel.cell (p := ⟨b1, o, none⟩) (HS.out b1 hs1)
      rw [← G] at g0 g1 g2 g3 g4 g5
      clear G
      obtain ⟨e1, m1, e2, m2, e3, m3, rfl, rfl, rfl, rfl, rfl, rfl⟩ := (show JRep w S p[k] _ from hr1).cells6
      have hkk := HK.out p[k] (List.getElem_mem hlt)
      have HSIL := Lib.hid (show silJ x (p.drop k) = _ from silJ_drop x p k hlt)
      have HSV := Lib.hid hsil
      have HBE := Lib.hid hbel
      have HBX := Lib.hid hbx
      have HBY := Lib.hid hby
      have HJ := Lib.hid hj
      have HXO := Lib.hid hxo
      have hk6 : (p[k].kind == 6) = false := by
        generalize p[k] = q at hkk
        cases q <;> first | rfl | exact hkk.elim
      have hB2 := below1 wr (.cells #[.int .i64 p[k].kind, .int .i64 p[k].half, .string p[k].text, .slice e1 p[k].list.length m1, .slice e2 p[k].keys.length m2, .slice e3 p[k].vals.length m3] 26)
      have hS' : ∀ b, S b → b < wr.heap.size := fun b hb => Nat.lt_of_lt_of_le (HS.out b hb) hbel.size
      have hr2 : JRep wr S p[k] _ := (show JRep w S p[k] _ from hr1).below hbel HS.out
      have HC := Lib.hid (SpecIndex_ok x p[k] hxo hkk _ S _ _ (lt_below hB2 hS') (hj.below hB2 hS') (hr2.below hB2 hS'))
      have HB2 := Lib.hid hB2
      have HKK := Lib.hid hkk
      clear hr1 hr2 hj hxo hsil hbel hbx hby hkk hB2 hS'
      have HBX2 := Lib.hid (HBX.out.bl HB2.out)
      have HBY2 := Lib.hid (HBY.out.bl HB2.out)
      have HBE2 := Lib.hid (HBE.out.trans (HB2.out.mono HBE.out.size))
      have HJ2 := Lib.hid (HJ.out.below HB2.out (fun b hb => Nat.lt_of_lt_of_le (HS.out b hb) HBE.out.size))
      have HBK := Lib.hid (Box.new wr p[k].kind p[k].half p[k].text (.slice e1 p[k].list.length m1) (.slice e2 p[k].keys.length m2) (.slice e3 p[k].vals.length m3))
      have HSZ := Lib.hid hszx
      clear HB2 x0 x1 x2 x3 x4 x5 y0 y1 y2 y3 y4 y5 hszx
      go_upto_region 4 with fail
      generalize wr.alloc (.cells #[.int .i64 p[k].kind, .int .i64 p[k].half, .string p[k].text, .slice e1 p[k].list.length m1, .slice e2 p[k].keys.length m2, .slice e3 p[k].vals.length m3] 26) = W2 at *
      obtain ⟨x0, x1, x2, x3, x4, x5⟩ := HBX2.out.c
      obtain ⟨y0, y1, y2, y3, y4, y5⟩ := HBY2.out.c
      obtain ⟨z0, z1, z2, z3, z4, z5⟩ := HBK.out.c
      by_cases hnull : x.kind = 0
      · have hxn : x = .null := by
          rcases x with _ | (_ | _) | _ | _ | _ | ⟨_, _⟩ <;> first | rfl | (simp [J.kind] at hnull)
        have hn1 : (x.kind == 0) = true := by simp [hnull]
        have HREL : Hid (silJ x (p.drop (k + 1)) = silJ v p) := by
          refine Lib.hid ?_
          rw [← HSV.out, HSIL.out, hxn]
          rfl
        have hn2 : 0 ≤ p[k].kind := kind_lo _
        by_cases hk4 : p[k].kind = 4
        · have hk4' : (p[k].kind == 4) = true := by simp [hk4]
          clear hnull hxn hk4
          go_wp2_with fail
          go_roundw
          case rel => exact ⟨k + 1, x, a1, n1, a2, n2, a3, n3, hlt, by go_num, HBX2.out, HBY2.out, HJ2.out, HXO.out, HBE2.out, HREL.out⟩
          case measure => simp [intOf]; omega
        · have hk4' : (p[k].kind == 4) = false := by simp [hk4]
          have hk3' : (p[k].kind == 3) = true := by
            have := HKK.out
            generalize p[k] = q at this hk4
            cases q <;> first | exact this.elim | rfl | exact absurd rfl hk4
          clear hnull hxn hk4
          go_wp2_with fail
          go_roundw
          case rel => exact ⟨k + 1, x, a1, n1, a2, n2, a3, n3, hlt, by go_num, HBX2.out, HBY2.out, HJ2.out, HXO.out, HBE2.out, HREL.out⟩
          case measure => simp [intOf]; omega
      · have hn1 : (x.kind == 0) = false := by simp [hnull]
        clear hnull
        by_cases hx4 : x.kind = 4
        · have hx4' : (x.kind == 4) = true := by simp [hx4]
          clear hx4
          go_upto_region 8 with (go_at_call 48; refine HC.out.mono ?_; rintro e w' ⟨c0, c1, c2, c3, c4, c5, how, z, rfl, hb', hj, hsays, hh0, hh2⟩; obtain ⟨r1, l1, r2, l2, r3, l3, rfl, rfl, rfl, rfl, rfl, rfl⟩ := hj.cells6; have hB3 := below1 w' (.cells #[.int .i64 z.kind, .int .i64 z.half, .string z.text, .slice r1 z.list.length l1, .slice r2 z.keys.length l2, .slice r3 z.vals.length l3] 26); have HBX3 := Lib.hid ((HBX2.out.bl hb').bl hB3); have HBY3 := Lib.hid ((HBY2.out.bl hb').bl hB3); have HBE3 := Lib.hid ((HBE2.out.trans (hb'.mono HBE2.out.size)).trans (hB3.mono (Nat.le_trans HBE2.out.size hb'.size))); have HJ3 := Lib.hid (hj.below hB3 (fun b hb => Nat.lt_of_lt_of_le (HS.out b hb) (Nat.le_trans HBE2.out.size hb'.size))); have HBZ := Lib.hid (Box.new w' z.kind z.half z.text (.slice r1 z.list.length l1) (.slice r2 z.keys.length l2) (.slice r3 z.vals.length l3)); have HSAYS := Lib.hid hsays; clear hb' hj hsays hB3)
          generalize w'.alloc (.cells #[.int .i64 z.kind, .int .i64 z.half, .string z.text, .slice r1 z.list.length l1, .slice r2 z.keys.length l2, .slice r3 z.vals.length l3] 26) = W3 at *
          clear x0 x1 x2 x3 x4 x5 y0 y1 y2 y3 y4 y5 z0 z1 z2 z3 z4 z5
          obtain ⟨x0, x1, x2, x3, x4, x5⟩ := HBX3.out.c
          obtain ⟨y0, y1, y2, y3, y4, y5⟩ := HBY3.out.c
          obtain ⟨z0, z1, z2, z3, z4, z5⟩ := HBZ.out.c
          have xf := HBX3.out.f
          have yf := HBY3.out.f
          rcases HSAYS.out with ⟨hi, rfl, hst⟩ | ⟨hi, hst, rfl⟩ | ⟨hi, hst, rfl⟩
          · have HREL : Hid (silJ z (p.drop (k + 1)) = silJ v p) := by
              refine Lib.hid ?_
              rw [← HSV.out, HSIL.out, hst, hi]
              rfl
            have HZO := Lib.hid (okJ_idx HXO.out hi)
            clear hi hst
            go_wp2_with fail
            go_roundw
            case rel => exact ⟨k + 1, z, r1, l1, r2, l2, r3, l3, hlt, by go_num, set6_box HBX3.out, (set6_other _ _ _ _ _ _ _ (by omega)).trans HBY3.out, HJ3.out.keep (fun b hb => set6_other _ _ _ _ _ _ b (by have := HS.out b hb; omega)) (fun _ h => h), HZO.out, HBE3.out.trans (below_set6 (Nat.le_refl _) _ _ _ _ _ _), HREL.out⟩
            case measure => simp [intOf]; omega
          · clear hi hst
            go_wp2_with fail
            have HZZ := Lib.hid (set6_box HBY3.out (k' := 0) (h' := 0) (t' := ⟨#[]⟩) (r1 := .slice none 0 0) (r2 := .slice none 0 0) (r3 := .slice none 0 0)).c
            refine bodyPost_ret (w := set6 W3 (w.heap.size + 1) (.int .i64 0) (.int .i64 0) (.string ⟨#[]⟩) (.slice none 0 0) (.slice none 0 0) (.slice none 0 0)) (v := .tuple #[zero6, .int .i64 2]) ?_ rfl ?_
            · obtain ⟨y0, y1, y2, y3, y4, y5⟩ := HZZ.out
              simp [zero6, results, Tryz.results14, go_sem, y0, y1, y2, y3, y4, y5]
            · exact ⟨_, _, _, _, _, _, _, _, _, _, _, _, _, rfl, HBE3.out.trans (below_set6 (by omega) _ _ _ _ _ _), .inl rfl⟩
          · have HREL : Hid (silJ v p = false) := by
              refine Lib.hid ?_
              rw [← HSV.out, HSIL.out, hst, hi]
              rfl
            clear hi hst
            go_wp2_with fail
            have HZZ := Lib.hid (set6_box HBY3.out (k' := 0) (h' := 0) (t' := ⟨#[]⟩) (r1 := .slice none 0 0) (r2 := .slice none 0 0) (r3 := .slice none 0 0)).c
            refine bodyPost_ret (w := set6 W3 (w.heap.size + 1) (.int .i64 0) (.int .i64 0) (.string ⟨#[]⟩) (.slice none 0 0) (.slice none 0 0) (.slice none 0 0)) (v := .tuple #[zero6, .int .i64 1]) ?_ rfl ?_
            · obtain ⟨y0, y1, y2, y3, y4, y5⟩ := HZZ.out
              simp [zero6, results, Tryz.results14, go_sem, y0, y1, y2, y3, y4, y5]
            · exact ⟨_, _, _, _, _, _, _, _, _, _, _, _, _, rfl, HBE3.out.trans (below_set6 (by omega) _ _ _ _ _ _), .inr ⟨HREL.out, .inr rfl⟩⟩
        · have hx4' : (x.kind == 4) = false := by simp [hx4]
          clear hx4
          go_upto_region 8 with (go_at_call 48; refine HC.out.mono ?_; rintro e w' ⟨c0, c1, c2, c3, c4, c5, how, z, rfl, hb', hj, hsays, hh0, hh2⟩; obtain ⟨r1, l1, r2, l2, r3, l3, rfl, rfl, rfl, rfl, rfl, rfl⟩ := hj.cells6; have hB3 := below1 w' (.cells #[.int .i64 z.kind, .int .i64 z.half, .string z.text, .slice r1 z.list.length l1, .slice r2 z.keys.length l2, .slice r3 z.vals.length l3] 26); have HBX3 := Lib.hid ((HBX2.out.bl hb').bl hB3); have HBY3 := Lib.hid ((HBY2.out.bl hb').bl hB3); have HBE3 := Lib.hid ((HBE2.out.trans (hb'.mono HBE2.out.size)).trans (hB3.mono (Nat.le_trans HBE2.out.size hb'.size))); have HJ3 := Lib.hid (hj.below hB3 (fun b hb => Nat.lt_of_lt_of_le (HS.out b hb) (Nat.le_trans HBE2.out.size hb'.size))); have HBZ := Lib.hid (Box.new w' z.kind z.half z.text (.slice r1 z.list.length l1) (.slice r2 z.keys.length l2) (.slice r3 z.vals.length l3)); have HSAYS := Lib.hid hsays; clear hb' hj hsays hB3)
          generalize w'.alloc (.cells #[.int .i64 z.kind, .int .i64 z.half, .string z.text, .slice r1 z.list.length l1, .slice r2 z.keys.length l2, .slice r3 z.vals.length l3] 26) = W3 at *
          clear x0 x1 x2 x3 x4 x5 y0 y1 y2 y3 y4 y5 z0 z1 z2 z3 z4 z5
          obtain ⟨x0, x1, x2, x3, x4, x5⟩ := HBX3.out.c
          obtain ⟨y0, y1, y2, y3, y4, y5⟩ := HBY3.out.c
          obtain ⟨z0, z1, z2, z3, z4, z5⟩ := HBZ.out.c
          have xf := HBX3.out.f
          have yf := HBY3.out.f
          rcases HSAYS.out with ⟨hi, rfl, hst⟩ | ⟨hi, hst, rfl⟩ | ⟨hi, hst, rfl⟩
          · have HREL : Hid (silJ z (p.drop (k + 1)) = silJ v p) := by
              refine Lib.hid ?_
              rw [← HSV.out, HSIL.out, hst, hi]
              rfl
            have HZO := Lib.hid (okJ_idx HXO.out hi)
            clear hi hst
            go_wp2_with fail
            go_roundw
            case rel => exact ⟨k + 1, z, r1, l1, r2, l2, r3, l3, hlt, by go_num, set6_box HBX3.out, (set6_other _ _ _ _ _ _ _ (by omega)).trans HBY3.out, HJ3.out.keep (fun b hb => set6_other _ _ _ _ _ _ b (by have := HS.out b hb; omega)) (fun _ h => h), HZO.out, HBE3.out.trans (below_set6 (Nat.le_refl _) _ _ _ _ _ _), HREL.out⟩
            case measure => simp [intOf]; omega
          · clear hi hst
            go_wp2_with fail
            have HZZ := Lib.hid (set6_box HBY3.out (k' := 0) (h' := 0) (t' := ⟨#[]⟩) (r1 := .slice none 0 0) (r2 := .slice none 0 0) (r3 := .slice none 0 0)).c
            refine bodyPost_ret (w := set6 W3 (w.heap.size + 1) (.int .i64 0) (.int .i64 0) (.string ⟨#[]⟩) (.slice none 0 0) (.slice none 0 0) (.slice none 0 0)) (v := .tuple #[zero6, .int .i64 2]) ?_ rfl ?_
            · obtain ⟨y0, y1, y2, y3, y4, y5⟩ := HZZ.out
              simp [zero6, results, Tryz.results14, go_sem, y0, y1, y2, y3, y4, y5]
            · exact ⟨_, _, _, _, _, _, _, _, _, _, _, _, _, rfl, HBE3.out.trans (below_set6 (by omega) _ _ _ _ _ _), .inl rfl⟩
          · have HREL : Hid (silJ v p = false) := by
              refine Lib.hid ?_
              rw [← HSV.out, HSIL.out, hst, hi]
              rfl
            clear hi hst
            go_wp2_with fail
            have HZZ := Lib.hid (set6_box HBY3.out (k' := 0) (h' := 0) (t' := ⟨#[]⟩) (r1 := .slice none 0 0) (r2 := .slice none 0 0) (r3 := .slice none 0 0)).c
            refine bodyPost_ret (w := set6 W3 (w.heap.size + 1) (.int .i64 0) (.int .i64 0) (.string ⟨#[]⟩) (.slice none 0 0) (.slice none 0 0) (.slice none 0 0)) (v := .tuple #[zero6, .int .i64 1]) ?_ rfl ?_
            · obtain ⟨y0, y1, y2, y3, y4, y5⟩ := HZZ.out
              simp [zero6, results, Tryz.results14, go_sem, y0, y1, y2, y3, y4, y5]
            · exact ⟨_, _, _, _, _, _, _, _, _, _, _, _, _, rfl, HBE3.out.trans (below_set6 (by omega) _ _ _ _ _ _), .inr ⟨HREL.out, .inr rfl⟩⟩
    · have hsil2 : silJ v p = false := by
        rw [← hsil, show k = p.length by omega, List.drop_length]
        rfl
      have HSV := Lib.hid hsil2
      have HBE := Lib.hid hbel
      have HBY := Lib.hid hby
      have HBX := Lib.hid hbx
      have xf := hby.f
      clear hsil hsil2 hbel hby hj hbx
      go_wp2_with fail
      have HZZ := Lib.hid (set6_box HBY.out (k' := x.kind) (h' := x.half) (t' := x.text) (r1 := .slice a1 x.list.length n1) (r2 := .slice a2 x.keys.length n2) (r3 := .slice a3 x.vals.length n3)).c
      refine bodyPost_ret (w := set6 wr (w.heap.size + 1) (.int .i64 x.kind) (.int .i64 x.half) (.string x.text) (.slice a1 x.list.length n1) (.slice a2 x.keys.length n2) (.slice a3 x.vals.length n3)) (v := .tuple #[.agg #[.int .i64 x.kind, .int .i64 x.half, .string x.text, .slice a1 x.list.length n1, .slice a2 x.keys.length n2, .slice a3 x.vals.length n3], .int .i64 0]) ?_ rfl ?_
      · obtain ⟨y0, y1, y2, y3, y4, y5⟩ := HZZ.out
        simp [results, Tryz.results14, go_sem, y0, y1, y2, y3, y4, y5]
      · exact ⟨_, _, _, _, _, _, _, _, _, _, _, _, _, rfl, HBE.out.trans (below_set6 (by omega) _ _ _ _ _ _), .inr ⟨HSV.out, .inl rfl⟩⟩
end Go.Gj
