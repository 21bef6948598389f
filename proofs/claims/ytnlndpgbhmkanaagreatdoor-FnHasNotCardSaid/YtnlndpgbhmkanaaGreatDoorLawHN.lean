/-
  laws.FnHasNot.
-/
import Derived.Test.YtnlndpgbhmkanaaGreatDoorLawGF
import Derived.Test.YtnlndpgbhmkanaaGreatDoorWYes
import Derived.Test.YtnlndpgbhmkanaaGreatDoorWDoorS
namespace Go.Gj
set_option linter.unusedSimpArgs false
set_option linter.unusedVariables false
set_option linter.unnecessarySimpa false
open Go Go.RowKit Go.Proofs

/-- A slice of one record, in a new block. -/
theorem one_sl {w : World} {S : Nat → Prop} (hS : ∀ b, S b → b < w.heap.size) {u : V} {k h : Int} {t : ByteArray} {s1 s2 s3 : Value} (hu : VRep w S u (.agg #[.int .i64 k, .int .i64 h, .string t, s1, s2, s3])) :
    SlOf (allB (w.alloc (.cells #[.int .i64 k, .int .i64 h, .string t, s1, s2, s3] 26))) [u].length (fun b o => VCells (w.alloc (.cells #[.int .i64 k, .int .i64 h, .string t, s1, s2, s3] 26)) (allB (w.alloc (.cells #[.int .i64 k, .int .i64 h, .string t, s1, s2, s3] 26))) b [u] o) (.slice (some ⟨w.heap.size, 0, none⟩) 1 1) := by
  have hb := below1 w (.cells #[.int .i64 k, .int .i64 h, .string t, s1, s2, s3] 26)
  have hS' : ∀ b, S b → allB (w.alloc (.cells #[.int .i64 k, .int .i64 h, .string t, s1, s2, s3] 26)) b := lt_below hb hS
  have hc : ∀ i v', (#[Value.int .i64 k, .int .i64 h, .string t, s1, s2, s3] : Array Value)[i]? = some v' → (w.alloc (.cells #[.int .i64 k, .int .i64 h, .string t, s1, s2, s3] 26)).cell? ⟨w.heap.size, i, none⟩ = some v' := fun i v' hv => by
    unfold World.cell?
    rw [heap_alloc_new w _]
    exact hv
  refine ⟨some ⟨w.heap.size, 0, none⟩, 1, rfl, by unfold mostLen; simp, .inr ⟨w.heap.size, 0, rfl, by unfold allB; rw [size_alloc]; omega, ?_⟩⟩
  exact ⟨⟨_, _, _, _, _, _, hc 0 _ rfl, hc 1 _ rfl, hc 2 _ rfl, hc 3 _ rfl, hc 4 _ rfl, hc 5 _ rfl, VRep.keep (.of_below hb hS) hS' _ _ hu⟩, trivial⟩

theorem fit_both {u v : V} (h : ∀ x ∈ [u, v], ∃ y : J, y.fit ∧ x = y.toV) : ∃ x y : J, x.fit ∧ u = x.toV ∧ y.fit ∧ v = y.toV := by
  obtain ⟨x, hx, hu⟩ := h u (by simp)
  obtain ⟨y, hy, hv⟩ := h v (by simp)
  exact ⟨x, y, hx, hu, hy, hv⟩

theorem hasAt_map {x y : J} (h1 : (x.kind == 6) = true) (h2 : (y.kind == 4) = true) : hasAt x y := by
  rcases x with _ | (_ | _) | n | s | p | ⟨ks, vs⟩ <;> simp [J.kind] at h1
  rcases y with _ | (_ | _) | n | s | p | ⟨ks', vs'⟩ <;> simp [J.kind] at h2
  trivial
theorem hasAt_list {x y : J} (h1 : (x.kind == 5) = true) (h2 : (y.kind == 3) = true) : hasAt x y := by
  rcases x with _ | (_ | _) | n | s | p | ⟨ks, vs⟩ <;> simp [J.kind] at h1
  rcases y with _ | (_ | _) | n | s | p | ⟨ks', vs'⟩ <;> simp [J.kind] at h2
  trivial

theorem kind_of {w : World} {S : Nat → Prop} {u : V} {x : J} {k h : Int} {t : ByteArray} {s1 s2 s3 : Value} (hu : u = x.toV) (hr : VRep w S u (.agg #[.int .i64 k, .int .i64 h, .string t, s1, s2, s3])) : x.kind = k := by
  obtain ⟨a, b, c, e, _⟩ := (jrep_of hu hr).parts
  simp only [Value.agg.injEq, Array.mk.injEq, List.cons.injEq, Value.int.injEq, true_and] at e
  exact e.1.symm

theorem cmp_tt (b : Bool) : ((0 : Int) == 0 && cmpJ (.bool b) (.bool true) == 0) = b := by cases b <;> rfl
theorem cmp_ff (b : Bool) : ((0 : Int) == 0 && cmpJ (.bool b) (.bool false) == 0) = !b := by cases b <;> rfl
theorem cmp_nn : ((0 : Int) == 0 && cmpJ .null .null == 0) = true := by rfl

theorem sl_bl {w w' : World} {l : List V} {v : Value} (h : SlOf (allB w) l.length (fun b o => VCells w (allB w) b l o) v) (hb : Below w.heap.size w w') : SlOf (allB w') l.length (fun b o => VCells w' (allB w') b l o) v :=
  SlOf.keep h (fun b h => Nat.lt_of_lt_of_le h hb.size) fun b o hb' hq => VCells.keep (.of_below hb fun _ h => h) (fun b h => Nat.lt_of_lt_of_le h hb.size) b hb' l o hq

theorem fin7 {W6 w8 : World} {B n : Nat} {zz : J} {z1 : Option Addr} {p1 : Nat} {z2 : Option Addr} {p2 : Nat} {z3 : Option Addr} {p3 : Nat} (h8 : Below W6.heap.size W6 w8) (hr : Box7 w8 B 0 0 ⟨#[]⟩ (.slice none 0 0) (.slice none 0 0) (.slice none 0 0) 0) (hB : W6.heap.size ≤ B)
    (hj : JRep w8 (since n w8) zz (.agg #[.int .i64 zz.kind, .int .i64 zz.half, .string zz.text, .slice z1 zz.list.length p1, .slice z2 zz.keys.length p2, .slice z3 zz.vals.length p3])) (hlt : B < n) :
    Below W6.heap.size W6 (set7 w8 B (.int .i64 zz.kind) (.int .i64 zz.half) (.string zz.text) (.slice z1 zz.list.length p1) (.slice z2 zz.keys.length p2) (.slice z3 zz.vals.length p3) (.int .i64 0)) ∧
      JRep (set7 w8 B (.int .i64 zz.kind) (.int .i64 zz.half) (.string zz.text) (.slice z1 zz.list.length p1) (.slice z2 zz.keys.length p2) (.slice z3 zz.vals.length p3) (.int .i64 0)) (allB (set7 w8 B (.int .i64 zz.kind) (.int .i64 zz.half) (.string zz.text) (.slice z1 zz.list.length p1) (.slice z2 zz.keys.length p2) (.slice z3 zz.vals.length p3) (.int .i64 0))) zz (.agg #[.int .i64 zz.kind, .int .i64 zz.half, .string zz.text, .slice z1 zz.list.length p1, .slice z2 zz.keys.length p2, .slice z3 zz.vals.length p3]) ∧
      Box7 (set7 w8 B (.int .i64 zz.kind) (.int .i64 zz.half) (.string zz.text) (.slice z1 zz.list.length p1) (.slice z2 zz.keys.length p2) (.slice z3 zz.vals.length p3) (.int .i64 0)) B zz.kind zz.half zz.text (.slice z1 zz.list.length p1) (.slice z2 zz.keys.length p2) (.slice z3 zz.vals.length p3) 0 :=
  ⟨h8.trans (below_set7 hB _ _ _ _ _ _ _), hj.keep (fun b hb => set7_other _ _ _ _ _ _ _ b (by have := hb.1; omega)) (fun b hb => by unfold allB; rw [set7_size]; exact hb.2), set7_box hr⟩

set_option maxHeartbeats 4000000 in
set_option maxRecDepth 100000 in
/-- laws.FnHasNot: it answers true. -/
theorem FnHasNot_ok (u uk : V) (w : World) (S : Nat → Prop) (va vk : Value) (hT : Tabs w) (hS : ∀ b, S b → b < w.heap.size) (ha : VRep w S u va) (hk : VRep w S uk vk) :
    Calls Tryz.prog 7 #[va, vk] w fun e w' => e = .returned (.bool true) ∧ Below w.heap.size w w' := by
  obtain ⟨k, h0, t, a1, n1, m1, a2, n2, m2, a3, n3, m3, rfl⟩ := ha.shape
  obtain ⟨k', h0', t', a1', n1', m1', a2', n2', m2', a3', n3', m3', rfl⟩ := hk.shape
  have hB := below2 w (.cells #[.int .i64 k, .int .i64 h0, .string t, .slice a1 n1 m1, .slice a2 n2 m2, .slice a3 n3 m3] 26) (.cells #[.int .i64 k', .int .i64 h0', .string t', .slice a1' n1' m1', .slice a2' n2' m2', .slice a3' n3' m3'] 26)
  have hbx := Box.new w k h0 t (.slice a1 n1 m1) (.slice a2 n2 m2) (.slice a3 n3 m3)
  have hbk := Box.new (w.alloc (.cells #[.int .i64 k, .int .i64 h0, .string t, .slice a1 n1 m1, .slice a2 n2 m2, .slice a3 n3 m3] 26)) k' h0' t' (.slice a1' n1' m1') (.slice a2' n2' m2') (.slice a3' n3' m3')
  rw [size_alloc w] at hbk
  have hbx2 := (Below.heap_alloc (w.alloc (.cells #[.int .i64 k, .int .i64 h0, .string t, .slice a1 n1 m1, .slice a2 n2 m2, .slice a3 n3 m3] 26)) (.cells #[.int .i64 k', .int .i64 h0', .string t', .slice a1' n1' m1', .slice a2' n2' m2', .slice a3' n3' m3'] 26) w.heap.size (by rw [size_alloc]; omega)).trans hbx
  have hsz1 : ((w.alloc (.cells #[.int .i64 k, .int .i64 h0, .string t, .slice a1 n1 m1, .slice a2 n2 m2, .slice a3 n3 m3] 26)).alloc (.cells #[.int .i64 k', .int .i64 h0', .string t', .slice a1' n1' m1', .slice a2' n2' m2', .slice a3' n3' m3'] 26)).heap.size = w.heap.size + 1 + 1 := by rw [size_alloc, size_alloc]
  generalize hW1 : (w.alloc (.cells #[.int .i64 k, .int .i64 h0, .string t, .slice a1 n1 m1, .slice a2 n2 m2, .slice a3 n3 m3] 26)).alloc (.cells #[.int .i64 k', .int .i64 h0', .string t', .slice a1' n1' m1', .slice a2' n2' m2', .slice a3' n3' m3'] 26) = W1 at *
  have key : ∀ w1, Below W1.heap.size W1 w1 →
      Below w.heap.size w w1 ∧ Tabs w1 ∧ (∀ b, S b → b < w1.heap.size) ∧ VRep w1 S u (.agg #[.int .i64 k, .int .i64 h0, .string t, .slice a1 n1 m1, .slice a2 n2 m2, .slice a3 n3 m3]) ∧ VRep w1 S uk (.agg #[.int .i64 k', .int .i64 h0', .string t', .slice a1' n1' m1', .slice a2' n2' m2', .slice a3' n3' m3']) ∧ Box w1 w.heap.size k h0 t (.slice a1 n1 m1) (.slice a2 n2 m2) (.slice a3 n3 m3) ∧ Box w1 (w.heap.size + 1) k' h0' t' (.slice a1' n1' m1') (.slice a2' n2' m2') (.slice a3' n3' m3') := fun w1 h1 => by
    have hbl : Below w.heap.size w w1 := hB.trans (h1.mono hB.size)
    exact ⟨hbl, hT.below hbl, lt_below hbl hS, VRep.keep (.of_below hbl hS) (fun _ h => h) _ _ ha, VRep.keep (.of_below hbl hS) (fun _ h => h) _ _ hk, (h1.block _ (by omega)).trans hbx2, (h1.block _ (by omega)).trans hbk⟩
  have KEY := Lib.hid key
  have HP0 := Lib.hid (Below.refl W1.heap.size W1)
  have HZ1 := Lib.hid (fun w1 h1 => zzFits1_ok _ w1 S _ (key w1 h1).2.2.1 (key w1 h1).2.2.2.1)
  have HZ2 := Lib.hid (fun w1 h1 => zzFits1_ok _ w1 S _ (key w1 h1).2.2.1 (key w1 h1).2.2.2.2.1)
  have CX : Hid (∀ w1, Below W1.heap.size W1 w1 → w1.cell? ⟨w.heap.size, 0, none⟩ = some (.int .i64 k) ∧ w1.cell? ⟨w.heap.size, 1, none⟩ = some (.int .i64 h0) ∧ w1.cell? ⟨w.heap.size, 2, none⟩ = some (.string t) ∧ w1.cell? ⟨w.heap.size, 3, none⟩ = some (.slice a1 n1 m1) ∧ w1.cell? ⟨w.heap.size, 4, none⟩ = some (.slice a2 n2 m2) ∧ w1.cell? ⟨w.heap.size, 5, none⟩ = some (.slice a3 n3 m3)) := Lib.hid fun w1 h1 => (key w1 h1).2.2.2.2.2.1.c
  have CK : Hid (∀ w1, Below W1.heap.size W1 w1 → w1.cell? ⟨w.heap.size + 1, 0, none⟩ = some (.int .i64 k') ∧ w1.cell? ⟨w.heap.size + 1, 1, none⟩ = some (.int .i64 h0') ∧ w1.cell? ⟨w.heap.size + 1, 2, none⟩ = some (.string t') ∧ w1.cell? ⟨w.heap.size + 1, 3, none⟩ = some (.slice a1' n1' m1') ∧ w1.cell? ⟨w.heap.size + 1, 4, none⟩ = some (.slice a2' n2' m2') ∧ w1.cell? ⟨w.heap.size + 1, 5, none⟩ = some (.slice a3' n3' m3')) := Lib.hid fun w1 h1 => (key w1 h1).2.2.2.2.2.2.c
  have HFIT := Lib.hid (fun w1 (h1 : Below W1.heap.size W1 w1) => fits_ok [u, uk] (w1.alloc (.cells #[.int .i64 k, .int .i64 h0, .string t, .slice a1 n1 m1, .slice a2 n2 m2, .slice a3 n3 m3, .int .i64 k', .int .i64 h0', .string t', .slice a1' n1' m1', .slice a2' n2' m2', .slice a3' n3' m3'] 26)) (allB _) (some ⟨w1.heap.size, 0, none⟩) 2 ((key w1 h1).2.1.below (below1 w1 _)) (fun _ h => h) (two_sl (key w1 h1).2.2.1 (key w1 h1).2.2.2.1 (key w1 h1).2.2.2.2.1))
  have HSTR := Lib.hid (fun w1 (h1 : Below W1.heap.size W1 w1) (y : J) (hu : uk = y.toV) (hy : y.ok) => straight_okV [uk] [y] (by rw [hu]; rfl) (fun z hz => by obtain rfl : z = y := (by simpa using hz); exact hy) (w1.alloc (.cells #[.int .i64 k', .int .i64 h0', .string t', .slice a1' n1' m1', .slice a2' n2' m2', .slice a3' n3' m3'] 26)) (allB _) (some ⟨w1.heap.size, 0, none⟩) 1 (fun _ h => h) (one_sl (key w1 h1).2.2.1 (key w1 h1).2.2.2.2.1))
  have HSZ1 := Lib.hid hsz1
  clear key hB ha hk hT hS hsz1 hbx hbk hbx2
  go_enter Tryz.func7, Tryz.ntmps7
  go_upto_region 1 with fail
  try rw [hW1]
  clear hW1
  obtain ⟨x0, x1, x2, x3, x4, x5⟩ := CX.out _ HP0.out
  go_upto_region 3 with (first
    | (go_at_call 10; with_reducible refine (HZ1.out _ HP0.out).mono ?_; rintro e w1 ⟨q1, rfl, hx⟩; have HP1 := Lib.hid (HP0.out.trans (hx.mono HP0.out.size)); clear hx x0 x1 x2 x3 x4 x5; obtain ⟨x0, x1, x2, x3, x4, x5⟩ := CK.out _ HP1.out; cases q1)
    | (go_at_call 10; with_reducible refine (HZ2.out _ HP1.out).mono ?_; rintro e w2 ⟨q2, rfl, hx⟩; have HP2 := Lib.hid (HP1.out.trans (hx.mono HP1.out.size)); clear hx x0 x1 x2 x3 x4 x5; cases q2))
  · exact bodyPost_ret (v := .bool true) (by simp [results, Tryz.results7, go_sem]) rfl ⟨rfl, (KEY.out _ HP1.out).1⟩
  · exact bodyPost_ret (v := .bool true) (by simp [results, Tryz.results7, go_sem]) rfl ⟨rfl, (KEY.out _ HP2.out).1⟩
  obtain ⟨x0, x1, x2, x3, x4, x5⟩ := CX.out _ HP2.out
  obtain ⟨y0, y1, y2, y3, y4, y5⟩ := CK.out _ HP2.out
  go_cut [46] (fun b wx => ∃ q : Bool, b = .bool q ∧ Below W1.heap.size W1 wx ∧ (q = false → ∃ x y : J, x.fit ∧ u = x.toV ∧ y.fit ∧ uk = y.toV ∧ keyOk y ∧ hasAt x y))
  case first =>
    go_wp2_with (first
      | (go_at_call 11; refine (HFIT.out _ HP2.out).mono ?_; rintro e w3 ⟨q3, rfl, hx, hi⟩; have HP3 := Lib.hid ((HP2.out.alloc HP2.out.size _).trans (hx.mono (HP2.out.alloc HP2.out.size _).size)); have HI3 := Lib.hid hi; clear hx hi x0 x1 x2 x3 x4 x5 y0 y1 y2 y3 y4 y5; obtain ⟨y0, y1, y2, y3, y4, y5⟩ := CK.out _ HP3.out; cases q3)
      | (go_at_call 13; obtain ⟨x, y, hx, hu, hy, huk⟩ := fit_both (HI3.out (by trivial)); refine (HSTR.out _ HP3.out y huk (fit_ok hy)).mono ?_; rintro e w4 ⟨q4, rfl, hx4, hi4⟩; have HP4 := Lib.hid ((HP3.out.alloc HP3.out.size _).trans (hx4.mono (HP3.out.alloc HP3.out.size _).size)); have HI4 := Lib.hid hi4; have HX := Lib.hid hx; have HU := Lib.hid hu; have HY := Lib.hid hy; have HUK := Lib.hid huk; have HKX := Lib.hid (kind_of hu (KEY.out _ HP4.out).2.2.2.1); have HKY := Lib.hid (kind_of huk (KEY.out _ HP4.out).2.2.2.2.1); clear hx4 hi4 hx hu hy huk y0 y1 y2 y3 y4 y5; obtain ⟨x0, x1, x2, x3, x4, x5⟩ := CX.out _ HP4.out; obtain ⟨y0, y1, y2, y3, y4, y5⟩ := CK.out _ HP4.out; cases q4))
    all_goals go_meet
    all_goals first
      | exact ⟨true, rfl, HP4.out, fun h => by cases h⟩
      | exact ⟨true, rfl, HP3.out, fun h => by cases h⟩
      | exact ⟨false, rfl, HP4.out, fun _ => ⟨x, y, HX.out, HU.out, HY.out, HUK.out, (HI4.out (by trivial)).2 y (by simp), hasAt_map (by rw [HKX.out, beq_iff_eq]; assumption) (by rw [HKY.out, beq_iff_eq]; assumption)⟩⟩
      | (cases hb : (k' == 3)
         · exact ⟨true, by simp [hb], HP4.out, fun h => by cases h⟩
         · exact ⟨false, by simp [hb], HP4.out, fun _ => ⟨x, y, HX.out, HU.out, HY.out, HUK.out, (HI4.out (by trivial)).2 y (by simp), hasAt_list (by rw [HKX.out, beq_iff_eq]; assumption) (by rw [HKY.out]; exact hb)⟩⟩)
      | trace_state
  case rest =>
    obtain ⟨q, rfl, hbw, hq⟩ := hcut
    have HPW := Lib.hid hbw
    have HQ := Lib.hid hq
    clear hbw hq x0 x1 x2 x3 x4 x5 y0 y1 y2 y3 y4 y5
    cases q
    · obtain ⟨x, y, hxf, hu, hyf, huk, hky, hat⟩ := HQ.out (by trivial)
      have hJx := jrep_of hu (KEY.out _ HPW.out).2.2.2.1
      have hJy := jrep_of huk (KEY.out _ HPW.out).2.2.2.2.1
      obtain ⟨b1, d1, b2, d2, b3, d3, e0, e1, e2, e3, e4, e5⟩ := hJx.cells6
      simp only [Value.int.injEq, Value.string.injEq, Value.slice.injEq, true_and] at e0 e1 e2 e3 e4 e5
      obtain rfl := e0; obtain rfl := e1; obtain rfl := e2
      obtain ⟨rfl, rfl, rfl⟩ := e3; obtain ⟨rfl, rfl, rfl⟩ := e4; obtain ⟨rfl, rfl, rfl⟩ := e5
      obtain ⟨b1, d1, b2, d2, b3, d3, e0, e1, e2, e3, e4, e5⟩ := hJy.cells6
      simp only [Value.int.injEq, Value.string.injEq, Value.slice.injEq, true_and] at e0 e1 e2 e3 e4 e5
      obtain rfl := e0; obtain rfl := e1; obtain rfl := e2
      obtain ⟨rfl, rfl, rfl⟩ := e3; obtain ⟨rfl, rfl, rfl⟩ := e4; obtain ⟨rfl, rfl, rfl⟩ := e5
      have HXF := Lib.hid hxf
      have HYF := Lib.hid hyf
      have HU := Lib.hid hu
      have HUK := Lib.hid huk
      have HKY := Lib.hid hky
      have HAT := Lib.hid hat
      obtain ⟨zz, hset, hzo, hzat, hzhas⟩ := setJ_one hky hat hxf hyf
      have HSET := Lib.hid hset
      have HZZ := Lib.hid (And.intro hzo (And.intro hzat hzhas))
      have HHAS := Lib.hid (Has_door x y (fit_ok hxf) (fit_ok hyf) (some (.bool (hasJ x y))) (fun w1 g1 g2 h1 h2 => ZzHas_ok x y hky hat (fit_ok hxf) w1 g1 g2 h1 h2) wc S (KEY.out _ HPW.out).2.2.1 _ _ hJx hJy)
      clear hJx hJy hxf hyf hu huk hky hat hset hzo hzat hzhas HQ
      obtain ⟨x0, x1, x2, x3, x4, x5⟩ := CX.out _ HPW.out
      obtain ⟨y0, y1, y2, y3, y4, y5⟩ := CK.out _ HPW.out
      go_upto_region 6 with (go_at_call 31; (refine HHAS.out.mono ?_; rintro e w5 ⟨c0, c1, c2, c3, c4, c5, en, z, rfl, hx5, hj5, hres⟩; obtain ⟨rfl, rfl⟩ : z = .bool (hasJ x y) ∧ en = 0 := hres; obtain ⟨q1, v1, q2, v2, q3, v3, rfl, rfl, rfl, rfl, rfl, rfl⟩ := hj5.cells6; have HP5 := Lib.hid (HPW.out.trans (hx5.mono HPW.out.size)); have HJ5 := Lib.hid (hj5.keep (S' := allB w5) (fun _ _ => rfl) (fun b h => h.2)); clear hx5 hj5))
      have HR6 := Lib.hid (Box7.new w5 (J.bool (hasJ x y)).kind (J.bool (hasJ x y)).half (J.bool (hasJ x y)).text (.slice q1 (J.bool (hasJ x y)).list.length v1) (.slice q2 (J.bool (hasJ x y)).keys.length v2) (.slice q3 (J.bool (hasJ x y)).vals.length v3) 0)
      have HP6 := Lib.hid (HP5.out.alloc HP5.out.size (.cells #[.int .i64 (J.bool (hasJ x y)).kind, .int .i64 (J.bool (hasJ x y)).half, .string (J.bool (hasJ x y)).text, .slice q1 (J.bool (hasJ x y)).list.length v1, .slice q2 (J.bool (hasJ x y)).keys.length v2, .slice q3 (J.bool (hasJ x y)).vals.length v3, .int .i64 0] 35))
      have HJ6 := Lib.hid (HJ5.out.keep (.of_below (below1 w5 (.cells #[.int .i64 (J.bool (hasJ x y)).kind, .int .i64 (J.bool (hasJ x y)).half, .string (J.bool (hasJ x y)).text, .slice q1 (J.bool (hasJ x y)).list.length v1, .slice q2 (J.bool (hasJ x y)).keys.length v2, .slice q3 (J.bool (hasJ x y)).vals.length v3, .int .i64 0] 35)) fun _ h => h) (S' := allB (w5.alloc (.cells #[.int .i64 (J.bool (hasJ x y)).kind, .int .i64 (J.bool (hasJ x y)).half, .string (J.bool (hasJ x y)).text, .slice q1 (J.bool (hasJ x y)).list.length v1, .slice q2 (J.bool (hasJ x y)).keys.length v2, .slice q3 (J.bool (hasJ x y)).vals.length v3, .int .i64 0] 35))) (fun b h => Nat.lt_of_lt_of_le h (below1 w5 (.cells #[.int .i64 (J.bool (hasJ x y)).kind, .int .i64 (J.bool (hasJ x y)).half, .string (J.bool (hasJ x y)).text, .slice q1 (J.bool (hasJ x y)).list.length v1, .slice q2 (J.bool (hasJ x y)).keys.length v2, .slice q3 (J.bool (hasJ x y)).vals.length v3, .int .i64 0] 35)).size))
      have hs6 : (w5.alloc (.cells #[.int .i64 (J.bool (hasJ x y)).kind, .int .i64 (J.bool (hasJ x y)).half, .string (J.bool (hasJ x y)).text, .slice q1 (J.bool (hasJ x y)).list.length v1, .slice q2 (J.bool (hasJ x y)).keys.length v2, .slice q3 (J.bool (hasJ x y)).vals.length v3, .int .i64 0] 35)).heap.size = w5.heap.size + 1 := size_alloc _ _
      generalize w5.alloc (.cells #[.int .i64 (J.bool (hasJ x y)).kind, .int .i64 (J.bool (hasJ x y)).half, .string (J.bool (hasJ x y)).text, .slice q1 (J.bool (hasJ x y)).list.length v1, .slice q2 (J.bool (hasJ x y)).keys.length v2, .slice q3 (J.bool (hasJ x y)).vals.length v3, .int .i64 0] 35) = W6 at *
      have HS6 := Lib.hid hs6
      clear hs6 x0 x1 x2 x3 x4 x5 y0 y1 y2 y3 y4 y5
      have HQ0 := Lib.hid (Below.refl W6.heap.size W6).drew
      have HK1 := Lib.hid (below_alloc' (Below.refl W6.heap.size W6) (.cells #[.int .i64 y.kind, .int .i64 y.half, .string y.text, .slice a1' y.list.length m1', .slice a2' y.keys.length m2', .slice a3' y.vals.length m3'] 26)).drew
      have HK2 := Lib.hid (below_alloc' (Below.refl W6.heap.size W6) (.cells #[.int .i64 0, .int .i64 0, .string ⟨#[]⟩, .slice none 0 0, .slice none 0 0, .slice none 0 0, .int .i64 0] 35)).drew
      have HK3 := Lib.hid (below_alloc' (below_alloc' (Below.refl W6.heap.size W6) (.cells #[.int .i64 y.kind, .int .i64 y.half, .string y.text, .slice a1' y.list.length m1', .slice a2' y.keys.length m2', .slice a3' y.vals.length m3'] 26)) (.cells #[.int .i64 0, .int .i64 0, .string ⟨#[]⟩, .slice none 0 0, .slice none 0 0, .slice none 0 0, .int .i64 0] 35)).drew
      have HK4 := Lib.hid (below_alloc' (below_alloc' (Below.refl W6.heap.size W6) (.cells #[.int .i64 0, .int .i64 0, .string ⟨#[]⟩, .slice none 0 0, .slice none 0 0, .slice none 0 0, .int .i64 0] 35)) (.cells #[.int .i64 y.kind, .int .i64 y.half, .string y.text, .slice a1' y.list.length m1', .slice a2' y.keys.length m2', .slice a3' y.vals.length m3'] 26)).drew
      have CXK : Hid (∀ w1, Below W6.heap.size W6 w1 → (w1.cell? ⟨w.heap.size, 0, none⟩ = some (.int .i64 x.kind) ∧ w1.cell? ⟨w.heap.size, 1, none⟩ = some (.int .i64 x.half) ∧ w1.cell? ⟨w.heap.size, 2, none⟩ = some (.string x.text) ∧ w1.cell? ⟨w.heap.size, 3, none⟩ = some (.slice a1 x.list.length m1) ∧ w1.cell? ⟨w.heap.size, 4, none⟩ = some (.slice a2 x.keys.length m2) ∧ w1.cell? ⟨w.heap.size, 5, none⟩ = some (.slice a3 x.vals.length m3)) ∧ (w1.cell? ⟨w.heap.size + 1, 0, none⟩ = some (.int .i64 y.kind) ∧ w1.cell? ⟨w.heap.size + 1, 1, none⟩ = some (.int .i64 y.half) ∧ w1.cell? ⟨w.heap.size + 1, 2, none⟩ = some (.string y.text) ∧ w1.cell? ⟨w.heap.size + 1, 3, none⟩ = some (.slice a1' y.list.length m1') ∧ w1.cell? ⟨w.heap.size + 1, 4, none⟩ = some (.slice a2' y.keys.length m2') ∧ w1.cell? ⟨w.heap.size + 1, 5, none⟩ = some (.slice a3' y.vals.length m3'))) := Lib.hid fun w1 h1 => ⟨CX.out w1 (HP6.out.trans (h1.mono HP6.out.size)), CK.out w1 (HP6.out.trans (h1.mono HP6.out.size))⟩
      have HONE := Lib.hid (fun v (hv : Below W6.heap.size W6 v) => one_sl (w := v) (KEY.out v (HP6.out.trans (hv.mono HP6.out.size))).2.2.1 (KEY.out v (HP6.out.trans (hv.mono HP6.out.size))).2.2.2.2.1)
      have HSP := Lib.hid (fun w1 (h1 : Below W6.heap.size W6 w1) (sl : Value) (hsl : SlOf (allB w1) [uk].length (fun b o => VCells w1 (allB w1) b [uk] o) sl) => SetPath_door x (.arr [y]) .null (fit_ok HXF.out) ⟨by simp [lim], fit_ok HYF.out, trivial⟩ trivial (setJ x [y] .null) (fun w2 g1 g2 g3 h1 h2 h3 => ZzSetPath_ok x .null [y] (fun k hk => by obtain rfl : k = y := (by simpa using hk); exact HKY.out) (fit_ok HXF.out) (fun r hr => sz_of_ok r (okn_ok (n := 2001) (by unfold lim; omega) r (by have e := HSET.out; rw [hr] at e; obtain rfl := Option.some.inj e; exact HZZ.out.1))) w2 g1 g2 g3 h1 h2 h3) w1 (allB w1) (fun _ h => h) (.agg #[.int .i64 x.kind, .int .i64 x.half, .string x.text, .slice a1 x.list.length m1, .slice a2 x.keys.length m2, .slice a3 x.vals.length m3]) (.agg #[.int .i64 5, .int .i64 0, .string ⟨#[]⟩, sl, .slice none 0 0, .slice none 0 0]) (.agg #[.int .i64 0, .int .i64 0, .string ⟨#[]⟩, .slice none 0 0, .slice none 0 0, .slice none 0 0]) ((jrep_of HU.out (KEY.out w1 (HP6.out.trans (h1.mono HP6.out.size))).2.2.2.1).keep (fun _ _ => rfl) (KEY.out w1 (HP6.out.trans (h1.mono HP6.out.size))).2.2.1) (by have := vrep_arr hsl; rw [HUK.out] at this; exact this) ⟨_, _, _, rfl, Nat.zero_le mostLen, by decide, by decide, slNil, slNil, slNil⟩)
      go_cut [6] (fun b wx => ∃ (B6 : Nat) (z1 : Option Addr) (p1 : Nat) (z2 : Option Addr) (p2 : Nat) (z3 : Option Addr) (p3 : Nat), b = .pointer (some ⟨B6, 0, none⟩) ∧ Below W6.heap.size W6 wx ∧ Box7 wx B6 zz.kind zz.half zz.text (.slice z1 zz.list.length p1) (.slice z2 zz.keys.length p2) (.slice z3 zz.vals.length p3) 0 ∧ JRep wx (allB wx) zz (.agg #[.int .i64 zz.kind, .int .i64 zz.half, .string zz.text, .slice z1 zz.list.length p1, .slice z2 zz.keys.length p2, .slice z3 zz.vals.length p3]))
      case first =>
        go_region_held3 (fun w1 => (w1.cell? ⟨w.heap.size, 0, none⟩ = some (.int .i64 x.kind) ∧ w1.cell? ⟨w.heap.size, 1, none⟩ = some (.int .i64 x.half) ∧ w1.cell? ⟨w.heap.size, 2, none⟩ = some (.string x.text) ∧ w1.cell? ⟨w.heap.size, 3, none⟩ = some (.slice a1 x.list.length m1) ∧ w1.cell? ⟨w.heap.size, 4, none⟩ = some (.slice a2 x.keys.length m2) ∧ w1.cell? ⟨w.heap.size, 5, none⟩ = some (.slice a3 x.vals.length m3)) ∧ (w1.cell? ⟨w.heap.size + 1, 0, none⟩ = some (.int .i64 y.kind) ∧ w1.cell? ⟨w.heap.size + 1, 1, none⟩ = some (.int .i64 y.half) ∧ w1.cell? ⟨w.heap.size + 1, 2, none⟩ = some (.string y.text) ∧ w1.cell? ⟨w.heap.size + 1, 3, none⟩ = some (.slice a1' y.list.length m1') ∧ w1.cell? ⟨w.heap.size + 1, 4, none⟩ = some (.slice a2' y.keys.length m2') ∧ w1.cell? ⟨w.heap.size + 1, 5, none⟩ = some (.slice a3' y.vals.length m3')))
          (first | with_reducible exact CXK.out _ HQ0.out | with_reducible exact CXK.out _ HK1.out | with_reducible exact CXK.out _ HK2.out | with_reducible exact CXK.out _ HK3.out | with_reducible exact CXK.out _ HK4.out | with_reducible exact CXK.out _ HQ7.out | with_reducible exact CXK.out _ (below_alloc' HQ7.out (.cells #[.int .i64 0, .int .i64 0, .string ⟨#[]⟩, .slice none 0 0, .slice none 0 0, .slice none 0 0, .int .i64 0] 35)) | with_reducible exact CXK.out _ HQ8.out | with_reducible exact CXK.out _ (below_alloc' HQ8.out (.cells #[.int .i64 0, .int .i64 0, .string ⟨#[]⟩, .slice none 0 0, .slice none 0 0, .slice none 0 0, .int .i64 0] 35)) | with_reducible exact CXK.out _ (below_alloc' HQ8.out (.cells #[.int .i64 zz.kind, .int .i64 zz.half, .string zz.text, .slice z1 zz.list.length p1, .slice z2 zz.keys.length p2, .slice z3 zz.vals.length p3, .int .i64 0] 35)) | with_reducible exact CXK.out _ HFB.out | exact CXK.out _ HFIN.out.1)
          (first
            | (go_at_call 12; refine (array_ok _ _ _ _ _ rfl).mono ?_; rintro e w7 ⟨rfl, hx⟩; have HSL7 : Hid (SlOf (allB w7) [uk].length (fun b o => VCells w7 (allB w7) b [uk] o) (.slice (some ⟨W6.heap.size, 0, none⟩) 1 1)) := Lib.hid (sl_bl (HONE.out W6.drew HQ0.out) hx); have HQ7 := Lib.hid ((below_alloc' HQ0.out (.cells #[.int .i64 y.kind, .int .i64 y.half, .string y.text, .slice a1' y.list.length m1', .slice a2' y.keys.length m2', .slice a3' y.vals.length m3'] 26)).trans (hx.mono (below_alloc' HQ0.out (.cells #[.int .i64 y.kind, .int .i64 y.half, .string y.text, .slice a1' y.list.length m1', .slice a2' y.keys.length m2', .slice a3' y.vals.length m3'] 26)).size)); clear hx)
            | (go_at_call 12; refine (array_ok _ _ _ _ _ rfl).mono ?_; rintro e w7 ⟨rfl, hx⟩; have HSL7 : Hid (SlOf (allB w7) [uk].length (fun b o => VCells w7 (allB w7) b [uk] o) (.slice (some ⟨W6.heap.size, 0, none⟩) 1 1)) := Lib.hid (sl_bl (sl_bl (HONE.out W6.drew HQ0.out) (below1 _ (.cells #[.int .i64 0, .int .i64 0, .string ⟨#[]⟩, .slice none 0 0, .slice none 0 0, .slice none 0 0, .int .i64 0] 35))) hx); have HR7 : Hid (Box7 w7 (W6.heap.size + 1) 0 0 ⟨#[]⟩ (.slice none 0 0) (.slice none 0 0) (.slice none 0 0) 0) := Lib.hid ((hx.block _ (by simp only [size_alloc, size_drew]; omega)).trans (by have := Box7.new (W6.drew.alloc (.cells #[.int .i64 y.kind, .int .i64 y.half, .string y.text, .slice a1' y.list.length m1', .slice a2' y.keys.length m2', .slice a3' y.vals.length m3'] 26)) 0 0 ⟨#[]⟩ (.slice none 0 0) (.slice none 0 0) (.slice none 0 0) 0; rw [size_alloc] at this; exact this)); have HLT : Hid (W6.heap.size + 1 < w7.heap.size) := Lib.hid (by have := hx.size; simp only [size_alloc, size_drew] at this; omega); have HQ7 := Lib.hid ((below_alloc' (below_alloc' HQ0.out (.cells #[.int .i64 y.kind, .int .i64 y.half, .string y.text, .slice a1' y.list.length m1', .slice a2' y.keys.length m2', .slice a3' y.vals.length m3'] 26)) (.cells #[.int .i64 0, .int .i64 0, .string ⟨#[]⟩, .slice none 0 0, .slice none 0 0, .slice none 0 0, .int .i64 0] 35)).trans (hx.mono (below_alloc' (below_alloc' HQ0.out (.cells #[.int .i64 y.kind, .int .i64 y.half, .string y.text, .slice a1' y.list.length m1', .slice a2' y.keys.length m2', .slice a3' y.vals.length m3'] 26)) (.cells #[.int .i64 0, .int .i64 0, .string ⟨#[]⟩, .slice none 0 0, .slice none 0 0, .slice none 0 0, .int .i64 0] 35)).size)); clear hx)
            | (go_at_call 12; refine (array_ok _ _ _ _ _ rfl).mono ?_; rintro e w7 ⟨rfl, hx⟩; have HSL7 : Hid (SlOf (allB w7) [uk].length (fun b o => VCells w7 (allB w7) b [uk] o) (.slice (some ⟨W6.heap.size + 1, 0, none⟩) 1 1)) := Lib.hid (by have hq := sl_bl (HONE.out (W6.drew.alloc (.cells #[.int .i64 0, .int .i64 0, .string ⟨#[]⟩, .slice none 0 0, .slice none 0 0, .slice none 0 0, .int .i64 0] 35)) (below_alloc' HQ0.out (.cells #[.int .i64 0, .int .i64 0, .string ⟨#[]⟩, .slice none 0 0, .slice none 0 0, .slice none 0 0, .int .i64 0] 35))) hx; rw [size_alloc W6.drew (.cells #[.int .i64 0, .int .i64 0, .string ⟨#[]⟩, .slice none 0 0, .slice none 0 0, .slice none 0 0, .int .i64 0] 35)] at hq; exact hq); have HR7 : Hid (Box7 w7 W6.heap.size 0 0 ⟨#[]⟩ (.slice none 0 0) (.slice none 0 0) (.slice none 0 0) 0) := Lib.hid ((hx.block _ (by simp only [size_alloc, size_drew]; omega)).trans ((Below.heap_alloc _ _ _ (by simp only [size_alloc, size_drew]; omega)).trans (Box7.new W6.drew 0 0 ⟨#[]⟩ (.slice none 0 0) (.slice none 0 0) (.slice none 0 0) 0))); have HLT : Hid (W6.heap.size < w7.heap.size) := Lib.hid (by have := hx.size; simp only [size_alloc, size_drew] at this; omega); have HQ7 := Lib.hid ((below_alloc' (below_alloc' HQ0.out (.cells #[.int .i64 0, .int .i64 0, .string ⟨#[]⟩, .slice none 0 0, .slice none 0 0, .slice none 0 0, .int .i64 0] 35)) (.cells #[.int .i64 y.kind, .int .i64 y.half, .string y.text, .slice a1' y.list.length m1', .slice a2' y.keys.length m2', .slice a3' y.vals.length m3'] 26)).trans (hx.mono (below_alloc' (below_alloc' HQ0.out (.cells #[.int .i64 0, .int .i64 0, .string ⟨#[]⟩, .slice none 0 0, .slice none 0 0, .slice none 0 0, .int .i64 0] 35)) (.cells #[.int .i64 y.kind, .int .i64 y.half, .string y.text, .slice a1' y.list.length m1', .slice a2' y.keys.length m2', .slice a3' y.vals.length m3'] 26)).size)); clear hx)
            | (go_at_call 30; (with_reducible refine (HSP.out w7 HQ7.out _ HSL7.out).mono ?_); rintro e w8 ⟨c0', c1', c2', c3', c4', c5', en', zq, rfl, hx8, hj8, hres'⟩; obtain ⟨hzq, rfl⟩ : zz = zq ∧ en' = 0 := (by rw [HSET.out] at hres'; exact ⟨hres'.1.symm, hres'.2⟩); subst hzq; obtain ⟨z1, p1, z2, p2, z3, p3, rfl, rfl, rfl, rfl, rfl, rfl⟩ := hj8.cells6; have HQ8 := Lib.hid (HQ7.out.trans (hx8.mono HQ7.out.size)); have HR8 : Hid (Box7 w8 (W6.heap.size + 1) 0 0 ⟨#[]⟩ (.slice none 0 0) (.slice none 0 0) (.slice none 0 0) 0) := Lib.hid ((hx8.block _ HLT.out).trans HR7.out); have HFIN : Hid (Below W6.heap.size W6 (set7 w8 (W6.heap.size + 1) (.int .i64 zz.kind) (.int .i64 zz.half) (.string zz.text) (.slice z1 zz.list.length p1) (.slice z2 zz.keys.length p2) (.slice z3 zz.vals.length p3) (.int .i64 0)) ∧ JRep (set7 w8 (W6.heap.size + 1) (.int .i64 zz.kind) (.int .i64 zz.half) (.string zz.text) (.slice z1 zz.list.length p1) (.slice z2 zz.keys.length p2) (.slice z3 zz.vals.length p3) (.int .i64 0)) (allB (set7 w8 (W6.heap.size + 1) (.int .i64 zz.kind) (.int .i64 zz.half) (.string zz.text) (.slice z1 zz.list.length p1) (.slice z2 zz.keys.length p2) (.slice z3 zz.vals.length p3) (.int .i64 0))) zz (.agg #[.int .i64 zz.kind, .int .i64 zz.half, .string zz.text, .slice z1 zz.list.length p1, .slice z2 zz.keys.length p2, .slice z3 zz.vals.length p3]) ∧ Box7 (set7 w8 (W6.heap.size + 1) (.int .i64 zz.kind) (.int .i64 zz.half) (.string zz.text) (.slice z1 zz.list.length p1) (.slice z2 zz.keys.length p2) (.slice z3 zz.vals.length p3) (.int .i64 0)) ((W6.heap.size + 1)) zz.kind zz.half zz.text (.slice z1 zz.list.length p1) (.slice z2 zz.keys.length p2) (.slice z3 zz.vals.length p3) 0) := Lib.hid (fin7 HQ8.out HR8.out (by first | exact Nat.le_refl _ | exact Nat.le_succ _ | exact HQ7.out.size) hj8 (by first | exact HLT.out)); have HFB0 := HFIN.out.1; unfold set7 at HFB0; have HFB := Lib.hid HFB0; clear HFB0; obtain ⟨r0, r1, r2, r3, r4, r5, r6⟩ := HR8.out.c; have rf := HR8.out.f; clear hx8 hj8 hres')
            | (go_at_call 30; (with_reducible refine (HSP.out w7 HQ7.out _ HSL7.out).mono ?_); rintro e w8 ⟨c0', c1', c2', c3', c4', c5', en', zq, rfl, hx8, hj8, hres'⟩; obtain ⟨hzq, rfl⟩ : zz = zq ∧ en' = 0 := (by rw [HSET.out] at hres'; exact ⟨hres'.1.symm, hres'.2⟩); subst hzq; obtain ⟨z1, p1, z2, p2, z3, p3, rfl, rfl, rfl, rfl, rfl, rfl⟩ := hj8.cells6; have HQ8 := Lib.hid (HQ7.out.trans (hx8.mono HQ7.out.size)); have HR8 : Hid (Box7 w8 W6.heap.size 0 0 ⟨#[]⟩ (.slice none 0 0) (.slice none 0 0) (.slice none 0 0) 0) := Lib.hid ((hx8.block _ HLT.out).trans HR7.out); have HFIN : Hid (Below W6.heap.size W6 (set7 w8 W6.heap.size (.int .i64 zz.kind) (.int .i64 zz.half) (.string zz.text) (.slice z1 zz.list.length p1) (.slice z2 zz.keys.length p2) (.slice z3 zz.vals.length p3) (.int .i64 0)) ∧ JRep (set7 w8 W6.heap.size (.int .i64 zz.kind) (.int .i64 zz.half) (.string zz.text) (.slice z1 zz.list.length p1) (.slice z2 zz.keys.length p2) (.slice z3 zz.vals.length p3) (.int .i64 0)) (allB (set7 w8 W6.heap.size (.int .i64 zz.kind) (.int .i64 zz.half) (.string zz.text) (.slice z1 zz.list.length p1) (.slice z2 zz.keys.length p2) (.slice z3 zz.vals.length p3) (.int .i64 0))) zz (.agg #[.int .i64 zz.kind, .int .i64 zz.half, .string zz.text, .slice z1 zz.list.length p1, .slice z2 zz.keys.length p2, .slice z3 zz.vals.length p3]) ∧ Box7 (set7 w8 W6.heap.size (.int .i64 zz.kind) (.int .i64 zz.half) (.string zz.text) (.slice z1 zz.list.length p1) (.slice z2 zz.keys.length p2) (.slice z3 zz.vals.length p3) (.int .i64 0)) (W6.heap.size) zz.kind zz.half zz.text (.slice z1 zz.list.length p1) (.slice z2 zz.keys.length p2) (.slice z3 zz.vals.length p3) 0) := Lib.hid (fin7 HQ8.out HR8.out (by first | exact Nat.le_refl _ | exact Nat.le_succ _ | exact HQ7.out.size) hj8 (by first | exact HLT.out)); have HFB0 := HFIN.out.1; unfold set7 at HFB0; have HFB := Lib.hid HFB0; clear HFB0; obtain ⟨r0, r1, r2, r3, r4, r5, r6⟩ := HR8.out.c; have rf := HR8.out.f; clear hx8 hj8 hres')
            | (go_at_call 30; (with_reducible refine (HSP.out w7 HQ7.out _ HSL7.out).mono ?_); rintro e w8 ⟨c0', c1', c2', c3', c4', c5', en', zq, rfl, hx8, hj8, hres'⟩; obtain ⟨hzq, rfl⟩ : zz = zq ∧ en' = 0 := (by rw [HSET.out] at hres'; exact ⟨hres'.1.symm, hres'.2⟩); subst hzq; obtain ⟨z1, p1, z2, p2, z3, p3, rfl, rfl, rfl, rfl, rfl, rfl⟩ := hj8.cells6; have HQ8 := Lib.hid (HQ7.out.trans (hx8.mono HQ7.out.size)); have HJ8 := Lib.hid hj8; clear hx8 hj8 hres')
            | (go_at_call 30; have HSP7 := Lib.hid (HSP.out (w7.alloc (.cells #[.int .i64 0, .int .i64 0, .string ⟨#[]⟩, .slice none 0 0, .slice none 0 0, .slice none 0 0, .int .i64 0] 35)) (below_alloc' HQ7.out (.cells #[.int .i64 0, .int .i64 0, .string ⟨#[]⟩, .slice none 0 0, .slice none 0 0, .slice none 0 0, .int .i64 0] 35)) _ (sl_bl HSL7.out (below1 w7 (.cells #[.int .i64 0, .int .i64 0, .string ⟨#[]⟩, .slice none 0 0, .slice none 0 0, .slice none 0 0, .int .i64 0] 35)))); (with_reducible refine HSP7.out.mono ?_); clear HSP7; rintro e w8 ⟨c0', c1', c2', c3', c4', c5', en', zq, rfl, hx8, hj8, hres'⟩; obtain ⟨hzq, rfl⟩ : zz = zq ∧ en' = 0 := (by rw [HSET.out] at hres'; exact ⟨hres'.1.symm, hres'.2⟩); subst hzq; obtain ⟨z1, p1, z2, p2, z3, p3, rfl, rfl, rfl, rfl, rfl, rfl⟩ := hj8.cells6; have HQ8 := Lib.hid ((below_alloc' HQ7.out (.cells #[.int .i64 0, .int .i64 0, .string ⟨#[]⟩, .slice none 0 0, .slice none 0 0, .slice none 0 0, .int .i64 0] 35)).trans (hx8.mono (below_alloc' HQ7.out (.cells #[.int .i64 0, .int .i64 0, .string ⟨#[]⟩, .slice none 0 0, .slice none 0 0, .slice none 0 0, .int .i64 0] 35)).size)); have HR8 : Hid (Box7 w8 w7.heap.size 0 0 ⟨#[]⟩ (.slice none 0 0) (.slice none 0 0) (.slice none 0 0) 0) := Lib.hid ((hx8.block _ (by rw [size_alloc]; omega)).trans (Box7.new w7 0 0 ⟨#[]⟩ (.slice none 0 0) (.slice none 0 0) (.slice none 0 0) 0)); have HLT : Hid (w7.heap.size < (w7.alloc (.cells #[.int .i64 0, .int .i64 0, .string ⟨#[]⟩, .slice none 0 0, .slice none 0 0, .slice none 0 0, .int .i64 0] 35)).heap.size) := Lib.hid (by rw [size_alloc]; omega); have HFIN : Hid (Below W6.heap.size W6 (set7 w8 w7.heap.size (.int .i64 zz.kind) (.int .i64 zz.half) (.string zz.text) (.slice z1 zz.list.length p1) (.slice z2 zz.keys.length p2) (.slice z3 zz.vals.length p3) (.int .i64 0)) ∧ JRep (set7 w8 w7.heap.size (.int .i64 zz.kind) (.int .i64 zz.half) (.string zz.text) (.slice z1 zz.list.length p1) (.slice z2 zz.keys.length p2) (.slice z3 zz.vals.length p3) (.int .i64 0)) (allB (set7 w8 w7.heap.size (.int .i64 zz.kind) (.int .i64 zz.half) (.string zz.text) (.slice z1 zz.list.length p1) (.slice z2 zz.keys.length p2) (.slice z3 zz.vals.length p3) (.int .i64 0))) zz (.agg #[.int .i64 zz.kind, .int .i64 zz.half, .string zz.text, .slice z1 zz.list.length p1, .slice z2 zz.keys.length p2, .slice z3 zz.vals.length p3]) ∧ Box7 (set7 w8 w7.heap.size (.int .i64 zz.kind) (.int .i64 zz.half) (.string zz.text) (.slice z1 zz.list.length p1) (.slice z2 zz.keys.length p2) (.slice z3 zz.vals.length p3) (.int .i64 0)) (w7.heap.size) zz.kind zz.half zz.text (.slice z1 zz.list.length p1) (.slice z2 zz.keys.length p2) (.slice z3 zz.vals.length p3) 0) := Lib.hid (fin7 HQ8.out HR8.out (by first | exact Nat.le_refl _ | exact Nat.le_succ _ | exact HQ7.out.size) hj8 (by first | exact HLT.out)); have HFB0 := HFIN.out.1; unfold set7 at HFB0; have HFB := Lib.hid HFB0; clear HFB0; obtain ⟨r0, r1, r2, r3, r4, r5, r6⟩ := HR8.out.c; have rf := HR8.out.f; clear hx8 hj8 hres'))
        all_goals go_wp2_with fail
        all_goals go_meet
        all_goals first
          | exact ⟨_, z1, p1, z2, p2, z3, p3, rfl, HFIN.out.1, HFIN.out.2.2, HFIN.out.2.1⟩
          | exact ⟨_, z1, p1, z2, p2, z3, p3, rfl, below_alloc' HQ8.out _, Box7.new _ _ _ _ _ _ _ _, HJ8.out.keep (.of_below (below1 w8 _) fun b h => h.2) (fun b h => Nat.lt_of_lt_of_le h.2 (below1 w8 _).size)⟩
          | trace_state
      case rest =>
        obtain ⟨B6, z1, p1, z2, p2, z3, p3, rfl, hbw, hb7, hjz⟩ := hcut
        have HPC := Lib.hid hbw
        have HB7 := Lib.hid hb7
        have HW := Lib.hid (fun w1 (h1 : Below wc.heap.size wc w1) => HP6.out.trans (hbw.trans (h1.mono hbw.size) |>.mono HP6.out.size))
        have HJX := Lib.hid (fun w1 (h1 : Below wc.heap.size wc w1) => (show JRep w1 (allB w1) x (.agg #[.int .i64 x.kind, .int .i64 x.half, .string x.text, .slice a1 x.list.length m1, .slice a2 x.keys.length m2, .slice a3 x.vals.length m3]) from (jrep_of HU.out (KEY.out w1 (HW.out w1 h1)).2.2.2.1).keep (fun _ _ => rfl) (KEY.out w1 (HW.out w1 h1)).2.2.1))
        have HJY := Lib.hid (fun w1 (h1 : Below wc.heap.size wc w1) => (show JRep w1 (allB w1) y (.agg #[.int .i64 y.kind, .int .i64 y.half, .string y.text, .slice a1' y.list.length m1', .slice a2' y.keys.length m2', .slice a3' y.vals.length m3']) from (jrep_of HUK.out (KEY.out w1 (HW.out w1 h1)).2.2.2.2.1).keep (fun _ _ => rfl) (KEY.out w1 (HW.out w1 h1)).2.2.1))
        have hzok : zz.ok := okn_ok (n := 2001) (by unfold lim; omega) zz HZZ.out.1
        have hHZ := Has_door zz y hzok (fit_ok HYF.out) (some (.bool (hasJ zz y))) (fun w1 g1 g2 h1 h2 => ZzHas_ok zz y HKY.out HZZ.out.2.1 hzok w1 g1 g2 h1 h2) wc (allB wc) (fun _ h => h) _ _ hjz (HJY.out wc (Below.refl _ _))
        rw [HZZ.out.2.2] at hHZ
        have HHZ := Lib.hid hHZ
        have HCH := Lib.hid (fun w1 (h1 : Below wc.heap.size wc w1) => Box7.c (((hbw.trans (h1.mono hbw.size)).block w5.heap.size (by have := HS6.out; omega)).trans HR6.out))
        have HCB := Lib.hid (fun w1 (h1 : Below wc.heap.size wc w1) => CXK.out w1 (hbw.trans (h1.mono hbw.size)))
        have HIX := Lib.hid (fun w1 (h1 : Below wc.heap.size wc w1) => Index_door x y (fit_ok HXF.out) (fit_ok HYF.out) (idxJ x y) (fun w2 g1 g2 k1 k2 => ZzIndex_ok x y HKY.out (hasAt_strange HAT.out) (fit_ok HXF.out) w2 g1 g2 k1 k2) w1 (allB w1) (fun _ h => h) _ _ (HJX.out w1 h1) (HJY.out w1 h1))
        have hJH := fun w1 (h1 : Below wc.heap.size wc w1) => HJ6.out.keep (.of_below (hbw.trans (h1.mono hbw.size)) fun _ h => h) (S' := allB w1) (fun b h => Nat.lt_of_lt_of_le h (hbw.trans (h1.mono hbw.size)).size)
        have HYH := Lib.hid (fun w1 (h1 : Below wc.heap.size wc w1) => by have q := yes_ok (.bool (hasJ x y)) 0 w1 (allB w1) _ _ _ _ _ _ trivial (fun _ h => h) (hJH w1 h1) (by decide); rw [cmp_tt] at q; exact q)
        have HNH := Lib.hid (fun w1 (h1 : Below wc.heap.size wc w1) => by have q := no_ok (.bool (hasJ x y)) 0 w1 (allB w1) _ _ _ _ _ _ trivial (fun _ h => h) (hJH w1 h1) (by decide); rw [cmp_ff] at q; exact q)
        have HR0 := Lib.hid (Below.refl wc.heap.size wc)
        obtain ⟨r0, r1, r2, r3, r4, r5, r6⟩ := hb7.c
        obtain ⟨⟨x0, x1, x2, x3, x4, x5⟩, ⟨y0, y1, y2, y3, y4, y5⟩⟩ := HCB.out wc HR0.out
        clear hbw hb7 hjz hzok hHZ hJH
        clear HHAS HSP HQ0 HK1 HK2 HK3 HK4 HONE
        have HTT := Lib.hid (fun (w1 : World) (S' : Nat → Prop) (hS' : ∀ b, S' b → b < w1.heap.size) (c0 c1 c2 c3 c4 c5 : Value) (hj : JRep w1 S' (.bool true) (.agg #[c0, c1, c2, c3, c4, c5])) => by have q := yes_ok (.bool true) 0 w1 S' _ _ _ _ _ _ trivial hS' hj (by decide); rw [cmp_tt] at q; exact q)
        have HNN := Lib.hid (fun (w1 : World) (S' : Nat → Prop) (hS' : ∀ b, S' b → b < w1.heap.size) (c0 c1 c2 c3 c4 c5 : Value) (hj : JRep w1 S' .null (.agg #[c0, c1, c2, c3, c4, c5])) => by have q := given_ok .null .null 0 w1 S' c0 c1 c2 c3 c4 c5 (.agg #[.int .i64 0, .int .i64 0, .string ⟨#[]⟩, .slice none 0 0, .slice none 0 0, .slice none 0 0]) trivial trivial hS' hj ⟨_, _, _, rfl, Nat.zero_le mostLen, by decide, by decide, slNil, slNil, slNil⟩ (by decide); rw [cmp_nn] at q; exact q)
        cases hh : hasJ x y
        all_goals
          rw [hh] at HYH HNH HCH
          have HH := Lib.hid hh
          clear hh
          go_wp2_with (first
            | (go_at_call 31; (with_reducible refine HHZ.out.mono ?_); rintro e w10 ⟨c0', c1', c2', c3', c4', c5', en', zq, rfl, hx10, hj10, hres'⟩; obtain ⟨rfl, rfl⟩ : zq = .bool true ∧ en' = 0 := hres'; obtain ⟨z1', p1', z2', p2', z3', p3', rfl, rfl, rfl, rfl, rfl, rfl⟩ := hj10.cells6; have HR1 := Lib.hid (HR0.out.trans (hx10.mono HR0.out.size)); have HYZ := Lib.hid (HTT.out w10 _ (fun b h => h.2) _ _ _ _ _ _ hj10); clear hx10 hj10 r0 r1 r2 r3 r4 r5 r6 x0 x1 x2 x3 x4 x5 y0 y1 y2 y3 y4 y5)
            | (go_at_call 32; (with_reducible refine HYZ.out.mono ?_); rintro e w11 ⟨rfl, hx11⟩; have HR2 := Lib.hid (HR1.out.trans (hx11.mono HR1.out.size)); clear hx11; obtain ⟨r0, r1, r2, r3, r4, r5, r6⟩ := HCH.out w11 HR2.out)
            | (go_at_call 32; (with_reducible refine (HYH.out w11 HR2.out).mono ?_); rintro e w12 ⟨rfl, hx12⟩; have HR3 := Lib.hid (HR2.out.trans (hx12.mono HR2.out.size)); clear hx12 r0 r1 r2 r3 r4 r5 r6; obtain ⟨r0, r1, r2, r3, r4, r5, r6⟩ := HCH.out w12 HR3.out)
            | (go_at_call 33; (with_reducible refine (HNH.out w12 HR3.out).mono ?_); rintro e w13 ⟨rfl, hx13⟩; have HR4 := Lib.hid (HR3.out.trans (hx13.mono HR3.out.size)); clear hx13 r0 r1 r2 r3 r4 r5 r6; obtain ⟨⟨x0, x1, x2, x3, x4, x5⟩, ⟨y0, y1, y2, y3, y4, y5⟩⟩ := HCB.out w13 HR4.out)
            | (go_at_call 15; (with_reducible refine (HIX.out w13 HR4.out).mono ?_); rintro e w14 ⟨c0', c1', c2', c3', c4', c5', en', zq, rfl, hx14, hj14, hres'⟩; obtain ⟨rfl, rfl⟩ : zq = .null ∧ en' = 0 := (by rw [idxJ_hasnot HAT.out HH.out] at hres'; exact hres'); have HR5 := Lib.hid (HR4.out.trans (hx14.mono HR4.out.size)); have HGN := Lib.hid (HNN.out w14 _ (fun b h => h.2) _ _ _ _ _ _ hj14); clear hx14 hj14 hres')
            | (go_at_call 17; (with_reducible refine HGN.out.mono ?_); rintro e w15 ⟨rfl, hx15⟩; have HR6 := Lib.hid (HR5.out.trans (hx15.mono HR5.out.size)); clear hx15))
          all_goals first
            | exact bodyPost_ret (v := .bool true) (by simp [results, Tryz.results7, go_sem]) rfl ⟨rfl, (KEY.out _ (HW.out _ HR6.out)).1⟩
            | exact bodyPost_ret (v := .bool true) (by simp [results, Tryz.results7, go_sem]) rfl ⟨rfl, (KEY.out _ (HW.out _ HR3.out)).1⟩
            | trace_state
    · go_wp2_with fail
      exact bodyPost_ret (v := .bool true) (by simp [results, Tryz.results7, go_sem]) rfl ⟨rfl, (KEY.out _ HPW.out).1⟩
end Go.Gj
