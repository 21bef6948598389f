/-
  laws.FnSetTwice.
-/
import Derived.Test.YtnlndpgbhmkanaaGreatDoorStL
namespace Go.Gj
set_option linter.unusedSimpArgs false
set_option linter.unusedVariables false
set_option linter.unnecessarySimpa false
open Go Go.RowKit Go.Proofs

theorem since_lt {n : Nat} {w : World} : ∀ b, since n w b → b < w.heap.size := fun _ h => h.2

/-- A slice of four records, in a new block. -/
theorem four_sl {w : World} {S : Nat → Prop} (hS : ∀ b, S b → b < w.heap.size) {u v x y : V} {k h k1 h1 k2 h2 k3 h3 : Int} {t t1 t2 t3 : ByteArray} {s1 s2 s3 p1 p2 p3 q1 q2 q3 r1 r2 r3 : Value} (hr0 : VRep w S u (.agg #[.int .i64 k, .int .i64 h, .string t, s1, s2, s3])) (hr1 : VRep w S v (.agg #[.int .i64 k1, .int .i64 h1, .string t1, p1, p2, p3])) (hr2 : VRep w S x (.agg #[.int .i64 k2, .int .i64 h2, .string t2, q1, q2, q3])) (hr3 : VRep w S y (.agg #[.int .i64 k3, .int .i64 h3, .string t3, r1, r2, r3])) :
    SlOf (allB (w.alloc (.cells #[.int .i64 k, .int .i64 h, .string t, s1, s2, s3, .int .i64 k1, .int .i64 h1, .string t1, p1, p2, p3, .int .i64 k2, .int .i64 h2, .string t2, q1, q2, q3, .int .i64 k3, .int .i64 h3, .string t3, r1, r2, r3] 26))) [u, v, x, y].length (fun b o => VCells (w.alloc (.cells #[.int .i64 k, .int .i64 h, .string t, s1, s2, s3, .int .i64 k1, .int .i64 h1, .string t1, p1, p2, p3, .int .i64 k2, .int .i64 h2, .string t2, q1, q2, q3, .int .i64 k3, .int .i64 h3, .string t3, r1, r2, r3] 26)) (allB (w.alloc (.cells #[.int .i64 k, .int .i64 h, .string t, s1, s2, s3, .int .i64 k1, .int .i64 h1, .string t1, p1, p2, p3, .int .i64 k2, .int .i64 h2, .string t2, q1, q2, q3, .int .i64 k3, .int .i64 h3, .string t3, r1, r2, r3] 26))) b [u, v, x, y] o) (.slice (some ⟨w.heap.size, 0, none⟩) [u, v, x, y].length 4) := by
  have hb := below1 w (.cells #[.int .i64 k, .int .i64 h, .string t, s1, s2, s3, .int .i64 k1, .int .i64 h1, .string t1, p1, p2, p3, .int .i64 k2, .int .i64 h2, .string t2, q1, q2, q3, .int .i64 k3, .int .i64 h3, .string t3, r1, r2, r3] 26)
  have hS' : ∀ b, S b → allB (w.alloc (.cells #[.int .i64 k, .int .i64 h, .string t, s1, s2, s3, .int .i64 k1, .int .i64 h1, .string t1, p1, p2, p3, .int .i64 k2, .int .i64 h2, .string t2, q1, q2, q3, .int .i64 k3, .int .i64 h3, .string t3, r1, r2, r3] 26)) b := lt_below hb hS
  have hc : ∀ i v', (#[.int .i64 k, .int .i64 h, .string t, s1, s2, s3, .int .i64 k1, .int .i64 h1, .string t1, p1, p2, p3, .int .i64 k2, .int .i64 h2, .string t2, q1, q2, q3, .int .i64 k3, .int .i64 h3, .string t3, r1, r2, r3] : Array Value)[i]? = some v' → (w.alloc (.cells #[.int .i64 k, .int .i64 h, .string t, s1, s2, s3, .int .i64 k1, .int .i64 h1, .string t1, p1, p2, p3, .int .i64 k2, .int .i64 h2, .string t2, q1, q2, q3, .int .i64 k3, .int .i64 h3, .string t3, r1, r2, r3] 26)).cell? ⟨w.heap.size, i, none⟩ = some v' := fun i v' hv => by
    unfold World.cell?
    rw [heap_alloc_new w _]
    exact hv
  refine ⟨some ⟨w.heap.size, 0, none⟩, 4, rfl, by unfold mostLen; simp, .inr ⟨w.heap.size, 0, rfl, by unfold allB; rw [size_alloc]; omega, ?_⟩⟩
  refine ⟨⟨_, _, _, _, _, _, hc 0 _ rfl, hc 1 _ rfl, hc 2 _ rfl, hc 3 _ rfl, hc 4 _ rfl, hc 5 _ rfl, VRep.keep (.of_below hb hS) hS' _ _ hr0⟩, ⟨_, _, _, _, _, _, hc 6 _ rfl, hc 7 _ rfl, hc 8 _ rfl, hc 9 _ rfl, hc 10 _ rfl, hc 11 _ rfl, VRep.keep (.of_below hb hS) hS' _ _ hr1⟩, ⟨_, _, _, _, _, _, hc 12 _ rfl, hc 13 _ rfl, hc 14 _ rfl, hc 15 _ rfl, hc 16 _ rfl, hc 17 _ rfl, VRep.keep (.of_below hb hS) hS' _ _ hr2⟩, ⟨_, _, _, _, _, _, hc 18 _ rfl, hc 19 _ rfl, hc 20 _ rfl, hc 21 _ rfl, hc 22 _ rfl, hc 23 _ rfl, VRep.keep (.of_below hb hS) hS' _ _ hr3⟩, trivial⟩

theorem fit_four {u v3 v4 : V} {l : List V} (h : ∀ x ∈ [u, V.mk 5 0 ⟨#[]⟩ l [] [], v3, v4], ∃ y : J, y.fit ∧ x = y.toV) : ∃ (x : J) (p : List J) (a b : J), x.fit ∧ u = x.toV ∧ (J.arr p).fit ∧ l = J.toVs p ∧ a.fit ∧ v3 = a.toV ∧ b.fit ∧ v4 = b.toV := by
  obtain ⟨x, p, hx, hu, hp, hl⟩ := fit_two (u := u) (l := l) (fun z hz => h z (by simp only [List.mem_cons, List.not_mem_nil, or_false] at hz ⊢; rcases hz with hz | hz <;> simp [hz]))
  obtain ⟨a, ha, h3⟩ := h v3 (by simp)
  obtain ⟨b, hb, h4⟩ := h v4 (by simp)
  exact ⟨x, p, a, b, hx, hu, hp, hl, ha, h3, hb, h4⟩

theorem cmp_ss (x : J) : ((0 : Int) == 0 && cmpJ x x == 0) = true := by rw [cmpJ_self]; rfl

set_option maxHeartbeats 4000000 in
set_option maxRecDepth 100000 in
/-- laws.FnSetTwice: it answers true. -/
theorem FnSetTwice_ok (u1 : V) (l : List V) (u2 u3 : V) (w : World) (S : Nat → Prop) (v1 vp v2 v3 : Value) (hT : Tabs w) (hS : ∀ b, S b → b < w.heap.size) (hr1 : VRep w S u1 v1) (hp : SlOf S l.length (fun b o => VCells w S b l o) vp) (hr2 : VRep w S u2 v2) (hr3 : VRep w S u3 v3) :
    Calls Tryz.prog 6 #[v1, vp, v2, v3] w fun e w' => e = .returned (.bool true) ∧ Below w.heap.size w w' := by
  obtain ⟨k1, h1, t1, a1, na1, ma1, b1, nb1, mb1, c1, nc1, mc1, rfl⟩ := hr1.shape
  obtain ⟨k2, h2, t2, a2, na2, ma2, b2, nb2, mb2, c2, nc2, mc2, rfl⟩ := hr2.shape
  obtain ⟨k3, h3, t3, a3, na3, ma3, b3, nb3, mb3, c3, nc3, mc3, rfl⟩ := hr3.shape
  have hp0 := hp
  obtain ⟨pa, pc, rfl, hpn, _⟩ := hp0
  have hB := below3 w (.cells #[.int .i64 k1, .int .i64 h1, .string t1, .slice a1 na1 ma1, .slice b1 nb1 mb1, .slice c1 nc1 mc1] 26) (.cells #[.int .i64 k2, .int .i64 h2, .string t2, .slice a2 na2 ma2, .slice b2 nb2 mb2, .slice c2 nc2 mc2] 26) (.cells #[.int .i64 k3, .int .i64 h3, .string t3, .slice a3 na3 ma3, .slice b3 nb3 mb3, .slice c3 nc3 mc3] 26)
  have e1 : (w.alloc (.cells #[.int .i64 k1, .int .i64 h1, .string t1, .slice a1 na1 ma1, .slice b1 nb1 mb1, .slice c1 nc1 mc1] 26)).heap.size = w.heap.size + 1 := size_alloc _ _
  have e2 : ((w.alloc (.cells #[.int .i64 k1, .int .i64 h1, .string t1, .slice a1 na1 ma1, .slice b1 nb1 mb1, .slice c1 nc1 mc1] 26)).alloc (.cells #[.int .i64 k2, .int .i64 h2, .string t2, .slice a2 na2 ma2, .slice b2 nb2 mb2, .slice c2 nc2 mc2] 26)).heap.size = w.heap.size + 2 := by rw [size_alloc, e1]
  have e3 : (((w.alloc (.cells #[.int .i64 k1, .int .i64 h1, .string t1, .slice a1 na1 ma1, .slice b1 nb1 mb1, .slice c1 nc1 mc1] 26)).alloc (.cells #[.int .i64 k2, .int .i64 h2, .string t2, .slice a2 na2 ma2, .slice b2 nb2 mb2, .slice c2 nc2 mc2] 26)).alloc (.cells #[.int .i64 k3, .int .i64 h3, .string t3, .slice a3 na3 ma3, .slice b3 nb3 mb3, .slice c3 nc3 mc3] 26)).heap.size = w.heap.size + 3 := by rw [size_alloc, e2]
  have q1 := Box.new w k1 h1 t1 (.slice a1 na1 ma1) (.slice b1 nb1 mb1) (.slice c1 nc1 mc1)
  have q2 := Box.new (w.alloc (.cells #[.int .i64 k1, .int .i64 h1, .string t1, .slice a1 na1 ma1, .slice b1 nb1 mb1, .slice c1 nc1 mc1] 26)) k2 h2 t2 (.slice a2 na2 ma2) (.slice b2 nb2 mb2) (.slice c2 nc2 mc2)
  have q3 := Box.new ((w.alloc (.cells #[.int .i64 k1, .int .i64 h1, .string t1, .slice a1 na1 ma1, .slice b1 nb1 mb1, .slice c1 nc1 mc1] 26)).alloc (.cells #[.int .i64 k2, .int .i64 h2, .string t2, .slice a2 na2 ma2, .slice b2 nb2 mb2, .slice c2 nc2 mc2] 26)) k3 h3 t3 (.slice a3 na3 ma3) (.slice b3 nb3 mb3) (.slice c3 nc3 mc3)
  rw [e1] at q2
  rw [e2] at q3
  replace q1 := ((Below.heap_alloc ((w.alloc (.cells #[.int .i64 k1, .int .i64 h1, .string t1, .slice a1 na1 ma1, .slice b1 nb1 mb1, .slice c1 nc1 mc1] 26)).alloc (.cells #[.int .i64 k2, .int .i64 h2, .string t2, .slice a2 na2 ma2, .slice b2 nb2 mb2, .slice c2 nc2 mc2] 26)) (.cells #[.int .i64 k3, .int .i64 h3, .string t3, .slice a3 na3 ma3, .slice b3 nb3 mb3, .slice c3 nc3 mc3] 26) w.heap.size (by rw [e2]; omega)).trans ((Below.heap_alloc (w.alloc (.cells #[.int .i64 k1, .int .i64 h1, .string t1, .slice a1 na1 ma1, .slice b1 nb1 mb1, .slice c1 nc1 mc1] 26)) (.cells #[.int .i64 k2, .int .i64 h2, .string t2, .slice a2 na2 ma2, .slice b2 nb2 mb2, .slice c2 nc2 mc2] 26) w.heap.size (by rw [e1]; omega)).trans q1))
  replace q2 := (Below.heap_alloc ((w.alloc (.cells #[.int .i64 k1, .int .i64 h1, .string t1, .slice a1 na1 ma1, .slice b1 nb1 mb1, .slice c1 nc1 mc1] 26)).alloc (.cells #[.int .i64 k2, .int .i64 h2, .string t2, .slice a2 na2 ma2, .slice b2 nb2 mb2, .slice c2 nc2 mc2] 26)) (.cells #[.int .i64 k3, .int .i64 h3, .string t3, .slice a3 na3 ma3, .slice b3 nb3 mb3, .slice c3 nc3 mc3] 26) (w.heap.size + 1) (by rw [e2]; omega)).trans q2
  generalize hW1 : (((w.alloc (.cells #[.int .i64 k1, .int .i64 h1, .string t1, .slice a1 na1 ma1, .slice b1 nb1 mb1, .slice c1 nc1 mc1] 26)).alloc (.cells #[.int .i64 k2, .int .i64 h2, .string t2, .slice a2 na2 ma2, .slice b2 nb2 mb2, .slice c2 nc2 mc2] 26)).alloc (.cells #[.int .i64 k3, .int .i64 h3, .string t3, .slice a3 na3 ma3, .slice b3 nb3 mb3, .slice c3 nc3 mc3] 26)) = W1 at *
  have key : ∀ w1, Below W1.heap.size W1 w1 →
      Below w.heap.size w w1 ∧ Tabs w1 ∧ (∀ b, S b → b < w1.heap.size) ∧ VRep w1 S u1 (.agg #[.int .i64 k1, .int .i64 h1, .string t1, .slice a1 na1 ma1, .slice b1 nb1 mb1, .slice c1 nc1 mc1]) ∧ SlOf S l.length (fun b o => VCells w1 S b l o) (.slice pa l.length pc) ∧ VRep w1 S u2 (.agg #[.int .i64 k2, .int .i64 h2, .string t2, .slice a2 na2 ma2, .slice b2 nb2 mb2, .slice c2 nc2 mc2]) ∧ VRep w1 S u3 (.agg #[.int .i64 k3, .int .i64 h3, .string t3, .slice a3 na3 ma3, .slice b3 nb3 mb3, .slice c3 nc3 mc3]) ∧ Box w1 w.heap.size k1 h1 t1 (.slice a1 na1 ma1) (.slice b1 nb1 mb1) (.slice c1 nc1 mc1) ∧ Box w1 (w.heap.size + 1) k2 h2 t2 (.slice a2 na2 ma2) (.slice b2 nb2 mb2) (.slice c2 nc2 mc2) ∧ Box w1 (w.heap.size + 2) k3 h3 t3 (.slice a3 na3 ma3) (.slice b3 nb3 mb3) (.slice c3 nc3 mc3) := fun w1 g1 => by
    have hbl : Below w.heap.size w w1 := hB.trans (g1.mono hB.size)
    exact ⟨hbl, hT.below hbl, lt_below hbl hS, VRep.keep (.of_below hbl hS) (fun _ h => h) _ _ hr1, SlOf.vkeep hp (.of_below hbl hS), VRep.keep (.of_below hbl hS) (fun _ h => h) _ _ hr2, VRep.keep (.of_below hbl hS) (fun _ h => h) _ _ hr3, (g1.block _ (by omega)).trans q1, (g1.block _ (by omega)).trans q2, (g1.block _ (by omega)).trans q3⟩
  have KEY := Lib.hid key
  have HP0 := Lib.hid (Below.refl W1.heap.size W1)
  have HZ1 := Lib.hid (fun w1 g1 => zzFits1_ok _ w1 S _ (key w1 g1).2.2.1 (key w1 g1).2.2.2.1)
  have HZ2 := Lib.hid (fun w1 g1 => zzFits1_ok _ w1 S _ (key w1 g1).2.2.1 (key w1 g1).2.2.2.2.2.1)
  have HZ3 := Lib.hid (fun w1 g1 => zzFits1_ok _ w1 S _ (key w1 g1).2.2.1 (key w1 g1).2.2.2.2.2.2.1)
  have CX : Hid (∀ w1, Below W1.heap.size W1 w1 → ((w1.cell? ⟨w.heap.size, 0, none⟩ = some (.int .i64 k1) ∧ w1.cell? ⟨w.heap.size, 1, none⟩ = some (.int .i64 h1) ∧ w1.cell? ⟨w.heap.size, 2, none⟩ = some (.string t1) ∧ w1.cell? ⟨w.heap.size, 3, none⟩ = some (.slice a1 na1 ma1) ∧ w1.cell? ⟨w.heap.size, 4, none⟩ = some (.slice b1 nb1 mb1) ∧ w1.cell? ⟨w.heap.size, 5, none⟩ = some (.slice c1 nc1 mc1)) ∧ (w1.cell? ⟨(w.heap.size + 1), 0, none⟩ = some (.int .i64 k2) ∧ w1.cell? ⟨(w.heap.size + 1), 1, none⟩ = some (.int .i64 h2) ∧ w1.cell? ⟨(w.heap.size + 1), 2, none⟩ = some (.string t2) ∧ w1.cell? ⟨(w.heap.size + 1), 3, none⟩ = some (.slice a2 na2 ma2) ∧ w1.cell? ⟨(w.heap.size + 1), 4, none⟩ = some (.slice b2 nb2 mb2) ∧ w1.cell? ⟨(w.heap.size + 1), 5, none⟩ = some (.slice c2 nc2 mc2)) ∧ (w1.cell? ⟨(w.heap.size + 1 + 1), 0, none⟩ = some (.int .i64 k3) ∧ w1.cell? ⟨(w.heap.size + 1 + 1), 1, none⟩ = some (.int .i64 h3) ∧ w1.cell? ⟨(w.heap.size + 1 + 1), 2, none⟩ = some (.string t3) ∧ w1.cell? ⟨(w.heap.size + 1 + 1), 3, none⟩ = some (.slice a3 na3 ma3) ∧ w1.cell? ⟨(w.heap.size + 1 + 1), 4, none⟩ = some (.slice b3 nb3 mb3) ∧ w1.cell? ⟨(w.heap.size + 1 + 1), 5, none⟩ = some (.slice c3 nc3 mc3)))) := Lib.hid fun w1 g1 => ⟨(key w1 g1).2.2.2.2.2.2.2.1.c, (key w1 g1).2.2.2.2.2.2.2.2.1.c, (key w1 g1).2.2.2.2.2.2.2.2.2.c⟩
  have HARR := Lib.hid (fun w1 => array_ok (.slice pa l.length pc) pa l.length pc w1 rfl)
  have HFIT := Lib.hid (fun w1 (g1 : Below W1.heap.size W1 w1) => fits_ok [u1, V.mk 5 0 ⟨#[]⟩ l [] [], u2, u3] (w1.alloc (.cells #[.int .i64 k1, .int .i64 h1, .string t1, .slice a1 na1 ma1, .slice b1 nb1 mb1, .slice c1 nc1 mc1, .int .i64 5, .int .i64 0, .string ⟨#[]⟩, .slice pa l.length pc, .slice none 0 0, .slice none 0 0, .int .i64 k2, .int .i64 h2, .string t2, .slice a2 na2 ma2, .slice b2 nb2 mb2, .slice c2 nc2 mc2, .int .i64 k3, .int .i64 h3, .string t3, .slice a3 na3 ma3, .slice b3 nb3 mb3, .slice c3 nc3 mc3] 26)) (allB _) (some ⟨w1.heap.size, 0, none⟩) 4 ((key w1 g1).2.1.below (below1 w1 _)) (fun _ h => h) (four_sl (key w1 g1).2.2.1 (key w1 g1).2.2.2.1 (vrep_arr (key w1 g1).2.2.2.2.1) (key w1 g1).2.2.2.2.2.1 (key w1 g1).2.2.2.2.2.2.1))
  have HSTR := Lib.hid (fun w1 (g1 : Below W1.heap.size W1 w1) (p : List J) (hl : l = J.toVs p) (hok : ∀ k ∈ p, k.ok) => straight_okV l p hl hok w1 S pa pc (key w1 g1).2.2.1 (key w1 g1).2.2.2.2.1)
  have HS := Lib.hid (fun b (hb : S b) => hS b hb)
  have HSZ1 := Lib.hid e3
  unfold mostLen at hpn
  clear key hB hr1 hr2 hr3 hp hT hS e1 e2 e3 q1 q2 q3
  have hsplit : ∃ d : Bool, decide ((2147483647 : Int) < (l.length : Int)) = d := ⟨_, rfl⟩
  obtain ⟨d, hd⟩ := hsplit
  cases d
  all_goals
    go_enter Tryz.func6, Tryz.ntmps6
    go_upto_region 1 with fail
    try rw [hW1]
    clear hW1
    obtain ⟨⟨x0, x1, x2, x3, x4, x5⟩, ⟨y0, y1, y2, y3, y4, y5⟩, ⟨z0, z1, z2, z3, z4, z5⟩⟩ := CX.out _ HP0.out
    go_upto_region 3 with (first
      | (go_at_call 10; (with_reducible refine (HZ1.out _ HP0.out).mono ?_); rintro e w2 ⟨q2, rfl, hx⟩; have HP2 := Lib.hid (HP0.out.trans (hx.mono HP0.out.size)); clear hx x0 x1 x2 x3 x4 x5 y0 y1 y2 y3 y4 y5 z0 z1 z2 z3 z4 z5; obtain ⟨⟨x0, x1, x2, x3, x4, x5⟩, ⟨y0, y1, y2, y3, y4, y5⟩, ⟨z0, z1, z2, z3, z4, z5⟩⟩ := CX.out _ HP2.out; cases q2)
      | (go_at_call 10; (with_reducible refine (HZ2.out _ HP2.out).mono ?_); rintro e w3 ⟨q3, rfl, hx⟩; have HP3 := Lib.hid (HP2.out.trans (hx.mono HP2.out.size)); clear hx x0 x1 x2 x3 x4 x5 y0 y1 y2 y3 y4 y5 z0 z1 z2 z3 z4 z5; obtain ⟨⟨x0, x1, x2, x3, x4, x5⟩, ⟨y0, y1, y2, y3, y4, y5⟩, ⟨z0, z1, z2, z3, z4, z5⟩⟩ := CX.out _ HP3.out; cases q3)
      | (go_at_call 10; (with_reducible refine (HZ3.out _ HP3.out).mono ?_); rintro e w4 ⟨q4, rfl, hx⟩; have HP4 := Lib.hid (HP3.out.trans (hx.mono HP3.out.size)); clear hx x0 x1 x2 x3 x4 x5 y0 y1 y2 y3 y4 y5 z0 z1 z2 z3 z4 z5; obtain ⟨⟨x0, x1, x2, x3, x4, x5⟩, ⟨y0, y1, y2, y3, y4, y5⟩, ⟨z0, z1, z2, z3, z4, z5⟩⟩ := CX.out _ HP4.out; cases q4))
    all_goals first
      | exact bodyPost_ret (v := .bool true) (by simp [results, Tryz.results6, go_sem]) rfl ⟨rfl, (KEY.out _ HP4.out).1⟩
      | exact bodyPost_ret (v := .bool true) (by simp [results, Tryz.results6, go_sem]) rfl ⟨rfl, (KEY.out _ HP3.out).1⟩
      | exact bodyPost_ret (v := .bool true) (by simp [results, Tryz.results6, go_sem]) rfl ⟨rfl, (KEY.out _ HP2.out).1⟩
      | skip
  clear x0 x1 x2 x3 x4 x5 y0 y1 y2 y3 y4 y5 z0 z1 z2 z3 z4 z5
  have HP5 := Lib.hid HP4.out.drew
  go_cut [41] (fun b wx => ∃ q : Bool, b = .bool q ∧ Below W1.heap.size W1 wx ∧ (q = false → ∃ (x : J) (p : List J) (a b : J), x.fit ∧ u1 = x.toV ∧ (J.arr p).fit ∧ l = J.toVs p ∧ a.fit ∧ u2 = a.toV ∧ b.fit ∧ u3 = b.toV ∧ p.length ≤ 20 ∧ ∀ k ∈ p, keyOk k))
  case first =>
    refine wp_region_S (fun i => decide (5 ≤ i)) (fun w1 => ((w1.cell? ⟨w.heap.size, 0, none⟩ = some (.int .i64 k1) ∧ w1.cell? ⟨w.heap.size, 1, none⟩ = some (.int .i64 h1) ∧ w1.cell? ⟨w.heap.size, 2, none⟩ = some (.string t1) ∧ w1.cell? ⟨w.heap.size, 3, none⟩ = some (.slice a1 na1 ma1) ∧ w1.cell? ⟨w.heap.size, 4, none⟩ = some (.slice b1 nb1 mb1) ∧ w1.cell? ⟨w.heap.size, 5, none⟩ = some (.slice c1 nc1 mc1)) ∧ (w1.cell? ⟨(w.heap.size + 1), 0, none⟩ = some (.int .i64 k2) ∧ w1.cell? ⟨(w.heap.size + 1), 1, none⟩ = some (.int .i64 h2) ∧ w1.cell? ⟨(w.heap.size + 1), 2, none⟩ = some (.string t2) ∧ w1.cell? ⟨(w.heap.size + 1), 3, none⟩ = some (.slice a2 na2 ma2) ∧ w1.cell? ⟨(w.heap.size + 1), 4, none⟩ = some (.slice b2 nb2 mb2) ∧ w1.cell? ⟨(w.heap.size + 1), 5, none⟩ = some (.slice c2 nc2 mc2)) ∧ (w1.cell? ⟨(w.heap.size + 1 + 1), 0, none⟩ = some (.int .i64 k3) ∧ w1.cell? ⟨(w.heap.size + 1 + 1), 1, none⟩ = some (.int .i64 h3) ∧ w1.cell? ⟨(w.heap.size + 1 + 1), 2, none⟩ = some (.string t3) ∧ w1.cell? ⟨(w.heap.size + 1 + 1), 3, none⟩ = some (.slice a3 na3 ma3) ∧ w1.cell? ⟨(w.heap.size + 1 + 1), 4, none⟩ = some (.slice b3 nb3 mb3) ∧ w1.cell? ⟨(w.heap.size + 1 + 1), 5, none⟩ = some (.slice c3 nc3 mc3)))) (fun _ => True) (by kernel_rfl) ?_
    refine wpAnyS_takeU 0 ⟨some 29, .load 26 (.tmp 4), 26, _, _, none⟩ (v := ?_) rfl (by kernel_rfl) (by kernel_rfl) (by kernel_rfl) (by kernel_rfl) (by kernel_rfl) (fun _ _ _ h => h) (Or.inl ⟨by rfl, ?_⟩) ⟨trivial, CX.out _ HP5.out⟩ ?_
    rotate_left
    · (intro x hx; obtain ⟨-, ⟨x0, x1, x2, x3, x4, x5⟩, ⟨y0, y1, y2, y3, y4, y5⟩, ⟨z0, z1, z2, z3, z4, z5⟩⟩ := hx; go_simp; try with_reducible rfl)
    try simp only [Act.put, List.setIfInBounds_toArray, List.set_cons_zero, List.set_cons_succ]
    refine wpAnyS_takeU 1 ⟨some 30, .move (.tmp 1), 23, _, _, none⟩ (v := ?_) rfl (by kernel_rfl) (by kernel_rfl) (by kernel_rfl) (by kernel_rfl) (by kernel_rfl) (fun _ _ _ h => h) (Or.inl ⟨by rfl, ?_⟩) ⟨trivial, CX.out _ HP5.out⟩ ?_
    rotate_left
    · (intro x hx; clear hx; go_simp; try with_reducible rfl)
    try simp only [Act.put, List.setIfInBounds_toArray, List.set_cons_zero, List.set_cons_succ]
    refine wpAnyS_takeU 3 ⟨some 32, .load 26 (.tmp 6), 26, _, _, none⟩ (v := ?_) rfl (by kernel_rfl) (by kernel_rfl) (by kernel_rfl) (by kernel_rfl) (by kernel_rfl) (fun _ _ _ h => h) (Or.inl ⟨by rfl, ?_⟩) ⟨trivial, CX.out _ HP5.out⟩ ?_
    rotate_left
    · (intro x hx; obtain ⟨-, ⟨x0, x1, x2, x3, x4, x5⟩, ⟨y0, y1, y2, y3, y4, y5⟩, ⟨z0, z1, z2, z3, z4, z5⟩⟩ := hx; go_simp; try with_reducible rfl)
    try simp only [Act.put, List.setIfInBounds_toArray, List.set_cons_zero, List.set_cons_succ]
    refine wpAnyS_takeU 4 ⟨some 33, .load 26 (.tmp 7), 26, _, _, none⟩ (v := ?_) rfl (by kernel_rfl) (by kernel_rfl) (by kernel_rfl) (by kernel_rfl) (by kernel_rfl) (fun _ _ _ h => h) (Or.inl ⟨by rfl, ?_⟩) ⟨trivial, CX.out _ HP5.out⟩ ?_
    rotate_left
    · (intro x hx; obtain ⟨-, ⟨x0, x1, x2, x3, x4, x5⟩, ⟨y0, y1, y2, y3, y4, y5⟩, ⟨z0, z1, z2, z3, z4, z5⟩⟩ := hx; go_simp; try with_reducible rfl)
    try simp only [Act.put, List.setIfInBounds_toArray, List.set_cons_zero, List.set_cons_succ]
    refine wpAnyS_ready [2] (by kernel_rfl) (by simp) ?_
    refine AllReadyS.cons ⟨some 31, .call { callee := .value (.func 12), args := #[.tmp 30], argTypes := #[23] }, 26, _, _, none⟩ rfl (fun K hK => ?_) AllReadyS.nil
    go_simp
    go_at_call 12
    refine (HARR.out _).mono ?_
    rintro e w6 ⟨rfl, hx⟩
    have HP6 := Lib.hid (HP5.out.trans (hx.mono HP5.out.size))
    clear hx
    try go_simp
    refine hK _ _ trivial (fun _ _ => CX.out _ HP6.out) ?_
    clear hK K
    try simp only [Act.put, List.setIfInBounds_toArray, List.set_cons_zero, List.set_cons_succ]
    refine wpAnyS_rest 5 (fun _ => trivial) rfl (by kernel_rfl) (by kernel_rfl) ?_
    simp only [List.drop_succ_cons, List.drop_zero]
    have HP7 := Lib.hid (HP6.out.alloc HP6.out.size (.cells #[.int .i64 k1, .int .i64 h1, .string t1, .slice a1 na1 ma1, .slice b1 nb1 mb1, .slice c1 nc1 mc1, .int .i64 5, .int .i64 0, .string ⟨#[]⟩, .slice pa l.length pc, .slice none 0 0, .slice none 0 0, .int .i64 k2, .int .i64 h2, .string t2, .slice a2 na2 ma2, .slice b2 nb2 mb2, .slice c2 nc2 mc2, .int .i64 k3, .int .i64 h3, .string t3, .slice a3 na3 ma3, .slice b3 nb3 mb3, .slice c3 nc3 mc3] 26))
    go_wp2_with (first
      | (go_at_call 11; refine (HFIT.out _ HP6.out).mono ?_; rintro e w8 ⟨q8, rfl, hx, hi⟩; have HP8 := Lib.hid (HP7.out.trans (hx.mono HP7.out.size)); have HI8 := Lib.hid hi; clear hx hi; cases q8)
      | (go_at_call 13; obtain ⟨x, p, a, b, hx, hu, hpf, hl, ha, hu2, hb, hu3⟩ := fit_four (HI8.out (by trivial)); refine (HSTR.out _ HP8.out p hl (fun k hk => fit_ok ((oksn_iff _ _).1 hpf.2 k hk))).mono ?_; rintro e w9 ⟨q9, rfl, hx9, hi9⟩; have HP9 := Lib.hid (HP8.out.trans (hx9.mono HP8.out.size)); have HI9 := Lib.hid hi9; have HX := Lib.hid hx; have HU := Lib.hid hu; have HPF := Lib.hid hpf; have HL := Lib.hid hl; have HA := Lib.hid (And.intro ha hu2); have HBB := Lib.hid (And.intro hb hu3); clear hx hu hpf hl hx9 hi9 ha hu2 hb hu3; cases q9))
    all_goals go_meet
    · exact ⟨true, rfl, HP8.out, fun h => by cases h⟩
    · exact ⟨true, rfl, HP9.out, fun h => by cases h⟩
    · exact ⟨false, rfl, HP9.out, fun _ => ⟨x, p, a, b, HX.out, HU.out, HPF.out, HL.out, HA.out.1, HA.out.2, HBB.out.1, HBB.out.2, (HI9.out (by trivial)).1, (HI9.out (by trivial)).2⟩⟩
  case rest =>
    obtain ⟨q, rfl, hbw, hq⟩ := hcut
    have HPW := Lib.hid hbw
    have HQ := Lib.hid hq
    clear hbw hq HP5 HP2 HP3 HP4 HFIT HSTR HZ1 HZ2 HZ3
    cases q
    rotate_left
    · go_wp2_with fail
      exact bodyPost_ret (v := .bool true) (by simp [results, Tryz.results6, go_sem]) rfl ⟨rfl, (KEY.out _ HPW.out).1⟩
    obtain ⟨x, p, a, b, hxf, hu, hpf, hl, haf, hu2, hbf, hu3, hp20, hkk⟩ := HQ.out (by trivial)
    have hJ1 := jrep_of hu (KEY.out _ HPW.out).2.2.2.1
    obtain ⟨b1x, d1x, b2x, d2x, b3x, d3x, e0, e1, e2, e3, e4, e5⟩ := hJ1.cells6
    simp only [Value.int.injEq, Value.string.injEq, Value.slice.injEq, true_and] at e0 e1 e2 e3 e4 e5
    obtain rfl := e0; obtain rfl := e1; obtain rfl := e2
    obtain ⟨rfl, rfl, rfl⟩ := e3; obtain ⟨rfl, rfl, rfl⟩ := e4; obtain ⟨rfl, rfl, rfl⟩ := e5
    have hJ2 := jrep_of hu2 (KEY.out _ HPW.out).2.2.2.2.2.1
    obtain ⟨b1x, d1x, b2x, d2x, b3x, d3x, e0, e1, e2, e3, e4, e5⟩ := hJ2.cells6
    simp only [Value.int.injEq, Value.string.injEq, Value.slice.injEq, true_and] at e0 e1 e2 e3 e4 e5
    obtain rfl := e0; obtain rfl := e1; obtain rfl := e2
    obtain ⟨rfl, rfl, rfl⟩ := e3; obtain ⟨rfl, rfl, rfl⟩ := e4; obtain ⟨rfl, rfl, rfl⟩ := e5
    have hJ3 := jrep_of hu3 (KEY.out _ HPW.out).2.2.2.2.2.2.1
    obtain ⟨b1x, d1x, b2x, d2x, b3x, d3x, e0, e1, e2, e3, e4, e5⟩ := hJ3.cells6
    simp only [Value.int.injEq, Value.string.injEq, Value.slice.injEq, true_and] at e0 e1 e2 e3 e4 e5
    obtain rfl := e0; obtain rfl := e1; obtain rfl := e2
    obtain ⟨rfl, rfl, rfl⟩ := e3; obtain ⟨rfl, rfl, rfl⟩ := e4; obtain ⟨rfl, rfl, rfl⟩ := e5
    have HF := Lib.hid (And.intro hxf (And.intro hpf (And.intro haf (And.intro hbf (And.intro hp20 hkk)))))
    have HU := Lib.hid (And.intro hu (And.intro hl (And.intro hu2 hu3)))
    clear hJ1 hJ2 hJ3 hxf hpf haf hbf hp20 hkk hu hl hu2 hu3 HQ
    have KJ : Hid (∀ w1, Below wc.heap.size wc w1 → Below W1.heap.size W1 w1 ∧ (∀ b, S b → b < w1.heap.size) ∧ JRep w1 S x (.agg #[.int .i64 x.kind, .int .i64 x.half, .string x.text, .slice a1 x.list.length ma1, .slice b1 x.keys.length mb1, .slice c1 x.vals.length mc1]) ∧ JRep w1 S (.arr p) (.agg #[.int .i64 5, .int .i64 0, .string ⟨#[]⟩, .slice pa l.length pc, .slice none 0 0, .slice none 0 0]) ∧ JRep w1 S a (.agg #[.int .i64 a.kind, .int .i64 a.half, .string a.text, .slice a2 a.list.length ma2, .slice b2 a.keys.length mb2, .slice c2 a.vals.length mc2]) ∧ JRep w1 S b (.agg #[.int .i64 b.kind, .int .i64 b.half, .string b.text, .slice a3 b.list.length ma3, .slice b3 b.keys.length mb3, .slice c3 b.vals.length mc3])) := Lib.hid (fun w1 h1 => by
      have hb := HPW.out.trans (h1.mono HPW.out.size)
      have hk := KEY.out w1 hb
      refine ⟨hb, hk.2.2.1, jrep_of HU.out.1 hk.2.2.2.1, ?_, jrep_of HU.out.2.2.1 hk.2.2.2.2.2.1, jrep_of HU.out.2.2.2 hk.2.2.2.2.2.2.1⟩
      have := vrep_arr hk.2.2.2.2.1
      rw [HU.out.2.1] at this ⊢
      exact this)
    have CXK : Hid (∀ w1, Below wc.heap.size wc w1 → ((w1.cell? ⟨w.heap.size, 0, none⟩ = some (.int .i64 x.kind) ∧ w1.cell? ⟨w.heap.size, 1, none⟩ = some (.int .i64 x.half) ∧ w1.cell? ⟨w.heap.size, 2, none⟩ = some (.string x.text) ∧ w1.cell? ⟨w.heap.size, 3, none⟩ = some (.slice a1 x.list.length ma1) ∧ w1.cell? ⟨w.heap.size, 4, none⟩ = some (.slice b1 x.keys.length mb1) ∧ w1.cell? ⟨w.heap.size, 5, none⟩ = some (.slice c1 x.vals.length mc1)) ∧ (w1.cell? ⟨(w.heap.size + 1), 0, none⟩ = some (.int .i64 a.kind) ∧ w1.cell? ⟨(w.heap.size + 1), 1, none⟩ = some (.int .i64 a.half) ∧ w1.cell? ⟨(w.heap.size + 1), 2, none⟩ = some (.string a.text) ∧ w1.cell? ⟨(w.heap.size + 1), 3, none⟩ = some (.slice a2 a.list.length ma2) ∧ w1.cell? ⟨(w.heap.size + 1), 4, none⟩ = some (.slice b2 a.keys.length mb2) ∧ w1.cell? ⟨(w.heap.size + 1), 5, none⟩ = some (.slice c2 a.vals.length mc2)) ∧ (w1.cell? ⟨(w.heap.size + 1 + 1), 0, none⟩ = some (.int .i64 b.kind) ∧ w1.cell? ⟨(w.heap.size + 1 + 1), 1, none⟩ = some (.int .i64 b.half) ∧ w1.cell? ⟨(w.heap.size + 1 + 1), 2, none⟩ = some (.string b.text) ∧ w1.cell? ⟨(w.heap.size + 1 + 1), 3, none⟩ = some (.slice a3 b.list.length ma3) ∧ w1.cell? ⟨(w.heap.size + 1 + 1), 4, none⟩ = some (.slice b3 b.keys.length mb3) ∧ w1.cell? ⟨(w.heap.size + 1 + 1), 5, none⟩ = some (.slice c3 b.vals.length mc3)))) := Lib.hid fun w1 h1 => CX.out w1 (KJ.out w1 h1).1
    have HSX : Hid (∀ r, setJ x p a = some r → r.okn 2001) := Lib.hid (fun r hr => setJ_okn (n := 2000) (Nat.le_refl _) p x a r (fun k hk => ⟨HF.out.2.2.2.2.2 k hk, (oksn_iff _ _).1 HF.out.2.1.2 k hk⟩) HF.out.1 (okn_mono (by omega) _ HF.out.2.2.1) hr)
    have HSY : Hid (∀ r, setJ x p b = some r → r.okn 2001) := Lib.hid (fun r hr => setJ_okn (n := 2000) (Nat.le_refl _) p x b r (fun k hk => ⟨HF.out.2.2.2.2.2 k hk, (oksn_iff _ _).1 HF.out.2.1.2 k hk⟩) HF.out.1 (okn_mono (by omega) _ HF.out.2.2.2.1) hr)
    have HSPA := Lib.hid (fun w1 (h1 : Below wc.heap.size wc w1) => SetPath_use x a p (fit_ok HF.out.1) HF.out.2.1 HF.out.2.2.2.2.2 (fit_ok HF.out.2.2.1) (fun r hr => sz_of_ok r (okn_ok (n := 2001) (by unfold lim; omega) r (HSX.out r hr))) w1 S (KJ.out w1 h1).2.1 _ _ _ (KJ.out w1 h1).2.2.1 (KJ.out w1 h1).2.2.2.1 (KJ.out w1 h1).2.2.2.2.1)
    have HSPB := Lib.hid (fun w1 (h1 : Below wc.heap.size wc w1) => SetPath_use x b p (fit_ok HF.out.1) HF.out.2.1 HF.out.2.2.2.2.2 (fit_ok HF.out.2.2.2.1) (fun r hr => sz_of_ok r (okn_ok (n := 2001) (by unfold lim; omega) r (HSY.out r hr))) w1 S (KJ.out w1 h1).2.1 _ _ _ (KJ.out w1 h1).2.2.1 (KJ.out w1 h1).2.2.2.1 (KJ.out w1 h1).2.2.2.2.2)
    go_upto_region 5 with fail
    go_cut [9, 10] (fun v9 v10 wx => ∃ (B9 B10 : Nat) (r s : J) (qr1 : Option Addr) (qr1n : Nat) (qr2 : Option Addr) (qr2n : Nat) (qr3 : Option Addr) (qr3n : Nat) (qs1 : Option Addr) (qs1n : Nat) (qs2 : Option Addr) (qs2n : Nat) (qs3 : Option Addr) (qs3n : Nat) (er es : Int), v9 = .pointer (some ⟨B9, 0, none⟩) ∧ v10 = .pointer (some ⟨B10, 0, none⟩) ∧ Below wc.heap.size wc wx ∧ Box7 wx B9 r.kind r.half r.text (.slice qr1 r.list.length qr1n) (.slice qr2 r.keys.length qr2n) (.slice qr3 r.vals.length qr3n) er ∧ Box7 wx B10 s.kind s.half s.text (.slice qs1 s.list.length qs1n) (.slice qs2 s.keys.length qs2n) (.slice qs3 s.vals.length qs3n) es ∧ JRep wx (allB wx) r (.agg #[.int .i64 r.kind, .int .i64 r.half, .string r.text, .slice qr1 r.list.length qr1n, .slice qr2 r.keys.length qr2n, .slice qr3 r.vals.length qr3n]) ∧ JRep wx (allB wx) s (.agg #[.int .i64 s.kind, .int .i64 s.half, .string s.text, .slice qs1 s.list.length qs1n, .slice qs2 s.keys.length qs2n, .slice qs3 s.vals.length qs3n]) ∧ ResIs (setJ x p a) r er ∧ ResIs (setJ x p b) s es)
    case first =>
      refine wp_region_S (fun i => decide (12 ≤ i)) (fun w1 => ((w1.cell? ⟨w.heap.size, 0, none⟩ = some (.int .i64 x.kind) ∧ w1.cell? ⟨w.heap.size, 1, none⟩ = some (.int .i64 x.half) ∧ w1.cell? ⟨w.heap.size, 2, none⟩ = some (.string x.text) ∧ w1.cell? ⟨w.heap.size, 3, none⟩ = some (.slice a1 x.list.length ma1) ∧ w1.cell? ⟨w.heap.size, 4, none⟩ = some (.slice b1 x.keys.length mb1) ∧ w1.cell? ⟨w.heap.size, 5, none⟩ = some (.slice c1 x.vals.length mc1)) ∧ (w1.cell? ⟨(w.heap.size + 1), 0, none⟩ = some (.int .i64 a.kind) ∧ w1.cell? ⟨(w.heap.size + 1), 1, none⟩ = some (.int .i64 a.half) ∧ w1.cell? ⟨(w.heap.size + 1), 2, none⟩ = some (.string a.text) ∧ w1.cell? ⟨(w.heap.size + 1), 3, none⟩ = some (.slice a2 a.list.length ma2) ∧ w1.cell? ⟨(w.heap.size + 1), 4, none⟩ = some (.slice b2 a.keys.length mb2) ∧ w1.cell? ⟨(w.heap.size + 1), 5, none⟩ = some (.slice c2 a.vals.length mc2)) ∧ (w1.cell? ⟨(w.heap.size + 1 + 1), 0, none⟩ = some (.int .i64 b.kind) ∧ w1.cell? ⟨(w.heap.size + 1 + 1), 1, none⟩ = some (.int .i64 b.half) ∧ w1.cell? ⟨(w.heap.size + 1 + 1), 2, none⟩ = some (.string b.text) ∧ w1.cell? ⟨(w.heap.size + 1 + 1), 3, none⟩ = some (.slice a3 b.list.length ma3) ∧ w1.cell? ⟨(w.heap.size + 1 + 1), 4, none⟩ = some (.slice b3 b.keys.length mb3) ∧ w1.cell? ⟨(w.heap.size + 1 + 1), 5, none⟩ = some (.slice c3 b.vals.length mc3)))) (fun _ => True) (by kernel_rfl) ?_
      have HC0 := Lib.hid (Below.refl wc.heap.size wc).drew
      have HSt := Lib.hid (St.start wc)
      generalize wc.drew = v0 at *
      refine wpAnyS_takeU 0 ⟨some 42, .load 26 (.tmp 4), 26, _, _, none⟩ (v := ?_) rfl (by kernel_rfl) (by kernel_rfl) (by kernel_rfl) (by kernel_rfl) (by kernel_rfl) (fun _ _ _ h => h) (Or.inl ⟨by rfl, ?_⟩) ⟨trivial, CXK.out _ HSt.out.1⟩ ?_
      rotate_left
      · (intro x hx; obtain ⟨-, ⟨x0, x1, x2, x3, x4, x5⟩, ⟨y0, y1, y2, y3, y4, y5⟩, ⟨z0, z1, z2, z3, z4, z5⟩⟩ := hx; go_simp; try with_reducible rfl)
      try simp only [Act.put, List.setIfInBounds_toArray, List.set_cons_zero, List.set_cons_succ]
      refine wpAnyS_takeU 1 ⟨some 43, .move (.tmp 1), 23, _, _, none⟩ (v := ?_) rfl (by kernel_rfl) (by kernel_rfl) (by kernel_rfl) (by kernel_rfl) (by kernel_rfl) (fun _ _ _ h => h) (Or.inl ⟨by rfl, ?_⟩) ⟨trivial, CXK.out _ HSt.out.1⟩ ?_
      rotate_left
      · (intro x hx; clear hx; go_simp; try with_reducible rfl)
      try simp only [Act.put, List.setIfInBounds_toArray, List.set_cons_zero, List.set_cons_succ]
      refine wpAnyS_takeU 3 ⟨some 45, .load 26 (.tmp 6), 26, _, _, none⟩ (v := ?_) rfl (by kernel_rfl) (by kernel_rfl) (by kernel_rfl) (by kernel_rfl) (by kernel_rfl) (fun _ _ _ h => h) (Or.inl ⟨by rfl, ?_⟩) ⟨trivial, CXK.out _ HSt.out.1⟩ ?_
      rotate_left
      · (intro x hx; obtain ⟨-, ⟨x0, x1, x2, x3, x4, x5⟩, ⟨y0, y1, y2, y3, y4, y5⟩, ⟨z0, z1, z2, z3, z4, z5⟩⟩ := hx; go_simp; try with_reducible rfl)
      try simp only [Act.put, List.setIfInBounds_toArray, List.set_cons_zero, List.set_cons_succ]
      refine wpAnyS_takeU 5 ⟨some 47, .load 26 (.tmp 4), 26, _, _, none⟩ (v := ?_) rfl (by kernel_rfl) (by kernel_rfl) (by kernel_rfl) (by kernel_rfl) (by kernel_rfl) (fun _ _ _ h => h) (Or.inl ⟨by rfl, ?_⟩) ⟨trivial, CXK.out _ HSt.out.1⟩ ?_
      rotate_left
      · (intro x hx; obtain ⟨-, ⟨x0, x1, x2, x3, x4, x5⟩, ⟨y0, y1, y2, y3, y4, y5⟩, ⟨z0, z1, z2, z3, z4, z5⟩⟩ := hx; go_simp; try with_reducible rfl)
      try simp only [Act.put, List.setIfInBounds_toArray, List.set_cons_zero, List.set_cons_succ]
      refine wpAnyS_takeU 6 ⟨some 48, .move (.tmp 1), 23, _, _, none⟩ (v := ?_) rfl (by kernel_rfl) (by kernel_rfl) (by kernel_rfl) (by kernel_rfl) (by kernel_rfl) (fun _ _ _ h => h) (Or.inl ⟨by rfl, ?_⟩) ⟨trivial, CXK.out _ HSt.out.1⟩ ?_
      rotate_left
      · (intro x hx; clear hx; go_simp; try with_reducible rfl)
      try simp only [Act.put, List.setIfInBounds_toArray, List.set_cons_zero, List.set_cons_succ]
      refine wpAnyS_takeU 8 ⟨some 50, .load 26 (.tmp 7), 26, _, _, none⟩ (v := ?_) rfl (by kernel_rfl) (by kernel_rfl) (by kernel_rfl) (by kernel_rfl) (by kernel_rfl) (fun _ _ _ h => h) (Or.inl ⟨by rfl, ?_⟩) ⟨trivial, CXK.out _ HSt.out.1⟩ ?_
      rotate_left
      · (intro x hx; obtain ⟨-, ⟨x0, x1, x2, x3, x4, x5⟩, ⟨y0, y1, y2, y3, y4, y5⟩, ⟨z0, z1, z2, z3, z4, z5⟩⟩ := hx; go_simp; try with_reducible rfl)
      try simp only [Act.put, List.setIfInBounds_toArray, List.set_cons_zero, List.set_cons_succ]
      refine wpAnyS_ready [2, 10, 11] (by kernel_rfl) (by simp) ?_
      refine AllReadyS.cons ⟨some 44, .call { callee := .value (.func 12), args := #[.tmp 43], argTypes := #[23] }, 26, _, _, none⟩ rfl (fun K hK => ?_) ?_
      focus
        go_simp
        go_at_call 12
        refine (HARR.out _).mono ?_
        rintro e v1 ⟨rfl, hx⟩
        replace HSt := Lib.hid (HSt.out.step hx)
        clear hx
        try go_simp
        refine hK _ _ trivial (fun _ _ => CXK.out _ HSt.out.1) ?_
        clear hK K
        try simp only [Act.put, List.setIfInBounds_toArray, List.set_cons_zero, List.set_cons_succ]
        refine wpAnyS_ready [4, 10, 11] (by kernel_rfl) (by simp) ?_
        refine AllReadyS.cons ⟨some 46, .call { callee := .value (.func 30), args := #[.tmp 42, .tmp 44, .tmp 45], argTypes := #[26, 26, 26] }, 35, _, _, none⟩ rfl (fun K hK => ?_) ?_
        focus
          go_simp
          go_at_call 30
          refine (HSPA.out _ HSt.out.1).mono ?_
          rintro e v2 ⟨g0, g1, g2, g3, g4, g5, er, r, rfl, hx, hj, hres⟩
          obtain ⟨qr1, qr1n, qr2, qr2n, qr3, qr3n, rfl, rfl, rfl, rfl, rfl, rfl⟩ := hj.cells6
          replace HSt := Lib.hid (HSt.out.call1 hx hj)
          have HRr := Lib.hid hres
          clear hx hj hres
          try go_simp
          refine hK _ _ trivial (fun _ _ => CXK.out _ HSt.out.1) ?_
          clear hK K
          try simp only [Act.put, List.setIfInBounds_toArray, List.set_cons_zero, List.set_cons_succ]
          refine wpAnyS_ready [7, 10, 11] (by kernel_rfl) (by simp) ?_
          refine AllReadyS.cons ⟨some 49, .call { callee := .value (.func 12), args := #[.tmp 48], argTypes := #[23] }, 26, _, _, none⟩ rfl (fun K hK => ?_) ?_
          focus
            go_simp
            go_at_call 12
            refine (HARR.out _).mono ?_
            rintro e v3 ⟨rfl, hx⟩
            replace HSt := Lib.hid (HSt.out.step hx)
            clear hx
            try go_simp
            refine hK _ _ trivial (fun _ _ => CXK.out _ HSt.out.1) ?_
            clear hK K
            try simp only [Act.put, List.setIfInBounds_toArray, List.set_cons_zero, List.set_cons_succ]
            refine wpAnyS_ready [9, 10, 11] (by kernel_rfl) (by simp) ?_
            refine AllReadyS.cons ⟨some 51, .call { callee := .value (.func 30), args := #[.tmp 47, .tmp 49, .tmp 50], argTypes := #[26, 26, 26] }, 35, _, _, none⟩ rfl (fun K hK => ?_) ?_
            focus
              go_simp
              go_at_call 30
              refine (HSPB.out _ HSt.out.1).mono ?_
              rintro e v4 ⟨g0, g1, g2, g3, g4, g5, es, s, rfl, hx, hj, hres⟩
              obtain ⟨qs1, qs1n, qs2, qs2n, qs3, qs3n, rfl, rfl, rfl, rfl, rfl, rfl⟩ := hj.cells6
              replace HSt := Lib.hid (HSt.out.call2 hx hj)
              have HRs := Lib.hid hres
              clear hx hj hres
              try go_simp
              refine hK _ _ trivial (fun _ _ => CXK.out _ HSt.out.1) ?_
              clear hK K
              try simp only [Act.put, List.setIfInBounds_toArray, List.set_cons_zero, List.set_cons_succ]
              refine wpAnyS_ready [10, 11] (by kernel_rfl) (by simp) ?_
              refine AllReadyS.cons ⟨some 9, .alloc 35, 0, _, _, none⟩ rfl (fun K hK => ?_) ?_
              focus
                go_simp
                replace HSt := Lib.hid (HSt.out.alloc9)
                refine hK _ _ trivial (fun _ _ => CXK.out _ HSt.out.1) ?_
                clear hK K
                try simp only [Act.put, List.setIfInBounds_toArray, List.set_cons_zero, List.set_cons_succ]
                have hgen : v4.alloc RZ = v4.alloc (.cells #[.int .i64 0, .int .i64 0, .string ⟨#[]⟩, .slice none 0 0, .slice none 0 0, .slice none 0 0, .int .i64 0] 35) := rfl
                rw [hgen] at HSt
                clear hgen
                generalize hgn : v4.alloc (.cells #[.int .i64 0, .int .i64 0, .string ⟨#[]⟩, .slice none 0 0, .slice none 0 0, .slice none 0 0, .int .i64 0] 35) = v5 at HSt ⊢
                clear hgn
                refine wpAnyS_ready [11] (by kernel_rfl) (by simp) ?_
                refine AllReadyS.cons ⟨some 10, .alloc 35, 0, _, _, none⟩ rfl (fun K hK => ?_) AllReadyS.nil
                go_simp
                replace HSt := Lib.hid (HSt.out.alloc10)
                refine hK _ _ trivial (fun _ _ => CXK.out _ HSt.out.1) ?_
                clear hK K
                try simp only [Act.put, List.setIfInBounds_toArray, List.set_cons_zero, List.set_cons_succ]
                have hgen : v5.alloc RZ = v5.alloc (.cells #[.int .i64 0, .int .i64 0, .string ⟨#[]⟩, .slice none 0 0, .slice none 0 0, .slice none 0 0, .int .i64 0] 35) := rfl
                rw [hgen] at HSt
                clear hgen
                generalize hgn : v5.alloc (.cells #[.int .i64 0, .int .i64 0, .string ⟨#[]⟩, .slice none 0 0, .slice none 0 0, .slice none 0 0, .int .i64 0] 35) = v6 at HSt ⊢
                clear hgn
                refine wpAnyS_rest 12 (fun _ => trivial) rfl (by kernel_rfl) (by kernel_rfl) ?_
                simp only [List.drop_succ_cons, List.drop_zero]
                have hc := HSt.out.cells
                obtain ⟨r0, r1, r2, r3, r4, r5, r6⟩ := hc.1.c
                have rf := hc.1.f
                have hc2 := hc.2 (.int .i64 r.kind) (.int .i64 r.half) (.string r.text) (.slice qr1 r.list.length qr1n) (.slice qr2 r.keys.length qr2n) (.slice qr3 r.vals.length qr3n) (.int .i64 er)
                obtain ⟨s0, s1, s2, s3, s4, s5, s6⟩ := hc2.c
                have sf := hc2.f
                unfold set7 set6 at s0 s1 s2 s3 s4 s5 s6 sf
                clear hc hc2
                go_wp2_with fail
                go_meet
                have hf := St.fin er es HSt.out rfl
                exact ⟨_, _, r, s, qr1, qr1n, qr2, qr2n, qr3, qr3n, qs1, qs1n, qs2, qs2n, qs3, qs3n, er, es, rfl, rfl, hf.1, hf.2.1, hf.2.2.1, hf.2.2.2.1, hf.2.2.2.2, HRr.out, HRs.out⟩
              refine AllReadyS.cons ⟨some 10, .alloc 35, 0, _, _, none⟩ rfl (fun K hK => ?_) AllReadyS.nil
              go_simp
              replace HSt := Lib.hid (HSt.out.alloc10)
              refine hK _ _ trivial (fun _ _ => CXK.out _ HSt.out.1) ?_
              clear hK K
              try simp only [Act.put, List.setIfInBounds_toArray, List.set_cons_zero, List.set_cons_succ]
              have hgen : v4.alloc RZ = v4.alloc (.cells #[.int .i64 0, .int .i64 0, .string ⟨#[]⟩, .slice none 0 0, .slice none 0 0, .slice none 0 0, .int .i64 0] 35) := rfl
              rw [hgen] at HSt
              clear hgen
              generalize hgn : v4.alloc (.cells #[.int .i64 0, .int .i64 0, .string ⟨#[]⟩, .slice none 0 0, .slice none 0 0, .slice none 0 0, .int .i64 0] 35) = v7 at HSt ⊢
              clear hgn
              refine wpAnyS_ready [10] (by kernel_rfl) (by simp) ?_
              refine AllReadyS.cons ⟨some 9, .alloc 35, 0, _, _, none⟩ rfl (fun K hK => ?_) AllReadyS.nil
              go_simp
              replace HSt := Lib.hid (HSt.out.alloc9)
              refine hK _ _ trivial (fun _ _ => CXK.out _ HSt.out.1) ?_
              clear hK K
              try simp only [Act.put, List.setIfInBounds_toArray, List.set_cons_zero, List.set_cons_succ]
              have hgen : v7.alloc RZ = v7.alloc (.cells #[.int .i64 0, .int .i64 0, .string ⟨#[]⟩, .slice none 0 0, .slice none 0 0, .slice none 0 0, .int .i64 0] 35) := rfl
              rw [hgen] at HSt
              clear hgen
              generalize hgn : v7.alloc (.cells #[.int .i64 0, .int .i64 0, .string ⟨#[]⟩, .slice none 0 0, .slice none 0 0, .slice none 0 0, .int .i64 0] 35) = v8 at HSt ⊢
              clear hgn
              refine wpAnyS_rest 12 (fun _ => trivial) rfl (by kernel_rfl) (by kernel_rfl) ?_
              simp only [List.drop_succ_cons, List.drop_zero]
              have hc := HSt.out.cells
              obtain ⟨r0, r1, r2, r3, r4, r5, r6⟩ := hc.1.c
              have rf := hc.1.f
              have hc2 := hc.2 (.int .i64 r.kind) (.int .i64 r.half) (.string r.text) (.slice qr1 r.list.length qr1n) (.slice qr2 r.keys.length qr2n) (.slice qr3 r.vals.length qr3n) (.int .i64 er)
              obtain ⟨s0, s1, s2, s3, s4, s5, s6⟩ := hc2.c
              have sf := hc2.f
              unfold set7 set6 at s0 s1 s2 s3 s4 s5 s6 sf
              clear hc hc2
              go_wp2_with fail
              go_meet
              have hf := St.fin er es HSt.out rfl
              exact ⟨_, _, r, s, qr1, qr1n, qr2, qr2n, qr3, qr3n, qs1, qs1n, qs2, qs2n, qs3, qs3n, er, es, rfl, rfl, hf.1, hf.2.1, hf.2.2.1, hf.2.2.2.1, hf.2.2.2.2, HRr.out, HRs.out⟩
            refine AllReadyS.cons ⟨some 9, .alloc 35, 0, _, _, none⟩ rfl (fun K hK => ?_) ?_
            focus
              go_simp
              replace HSt := Lib.hid (HSt.out.alloc9)
              refine hK _ _ trivial (fun _ _ => CXK.out _ HSt.out.1) ?_
              clear hK K
              try simp only [Act.put, List.setIfInBounds_toArray, List.set_cons_zero, List.set_cons_succ]
              have hgen : v3.alloc RZ = v3.alloc (.cells #[.int .i64 0, .int .i64 0, .string ⟨#[]⟩, .slice none 0 0, .slice none 0 0, .slice none 0 0, .int .i64 0] 35) := rfl
              rw [hgen] at HSt
              clear hgen
              generalize hgn : v3.alloc (.cells #[.int .i64 0, .int .i64 0, .string ⟨#[]⟩, .slice none 0 0, .slice none 0 0, .slice none 0 0, .int .i64 0] 35) = v9 at HSt ⊢
              clear hgn
              refine wpAnyS_ready [9, 11] (by kernel_rfl) (by simp) ?_
              refine AllReadyS.cons ⟨some 51, .call { callee := .value (.func 30), args := #[.tmp 47, .tmp 49, .tmp 50], argTypes := #[26, 26, 26] }, 35, _, _, none⟩ rfl (fun K hK => ?_) ?_
              focus
                go_simp
                go_at_call 30
                refine (HSPB.out _ HSt.out.1).mono ?_
                rintro e v10 ⟨g0, g1, g2, g3, g4, g5, es, s, rfl, hx, hj, hres⟩
                obtain ⟨qs1, qs1n, qs2, qs2n, qs3, qs3n, rfl, rfl, rfl, rfl, rfl, rfl⟩ := hj.cells6
                replace HSt := Lib.hid (HSt.out.call2 hx hj)
                have HRs := Lib.hid hres
                clear hx hj hres
                try go_simp
                refine hK _ _ trivial (fun _ _ => CXK.out _ HSt.out.1) ?_
                clear hK K
                try simp only [Act.put, List.setIfInBounds_toArray, List.set_cons_zero, List.set_cons_succ]
                refine wpAnyS_ready [11] (by kernel_rfl) (by simp) ?_
                refine AllReadyS.cons ⟨some 10, .alloc 35, 0, _, _, none⟩ rfl (fun K hK => ?_) AllReadyS.nil
                go_simp
                replace HSt := Lib.hid (HSt.out.alloc10)
                refine hK _ _ trivial (fun _ _ => CXK.out _ HSt.out.1) ?_
                clear hK K
                try simp only [Act.put, List.setIfInBounds_toArray, List.set_cons_zero, List.set_cons_succ]
                have hgen : v10.alloc RZ = v10.alloc (.cells #[.int .i64 0, .int .i64 0, .string ⟨#[]⟩, .slice none 0 0, .slice none 0 0, .slice none 0 0, .int .i64 0] 35) := rfl
                rw [hgen] at HSt
                clear hgen
                generalize hgn : v10.alloc (.cells #[.int .i64 0, .int .i64 0, .string ⟨#[]⟩, .slice none 0 0, .slice none 0 0, .slice none 0 0, .int .i64 0] 35) = v11 at HSt ⊢
                clear hgn
                refine wpAnyS_rest 12 (fun _ => trivial) rfl (by kernel_rfl) (by kernel_rfl) ?_
                simp only [List.drop_succ_cons, List.drop_zero]
                have hc := HSt.out.cells
                obtain ⟨r0, r1, r2, r3, r4, r5, r6⟩ := hc.1.c
                have rf := hc.1.f
                have hc2 := hc.2 (.int .i64 r.kind) (.int .i64 r.half) (.string r.text) (.slice qr1 r.list.length qr1n) (.slice qr2 r.keys.length qr2n) (.slice qr3 r.vals.length qr3n) (.int .i64 er)
                obtain ⟨s0, s1, s2, s3, s4, s5, s6⟩ := hc2.c
                have sf := hc2.f
                unfold set7 set6 at s0 s1 s2 s3 s4 s5 s6 sf
                clear hc hc2
                go_wp2_with fail
                go_meet
                have hf := St.fin er es HSt.out rfl
                exact ⟨_, _, r, s, qr1, qr1n, qr2, qr2n, qr3, qr3n, qs1, qs1n, qs2, qs2n, qs3, qs3n, er, es, rfl, rfl, hf.1, hf.2.1, hf.2.2.1, hf.2.2.2.1, hf.2.2.2.2, HRr.out, HRs.out⟩
              refine AllReadyS.cons ⟨some 10, .alloc 35, 0, _, _, none⟩ rfl (fun K hK => ?_) AllReadyS.nil
              go_simp
              replace HSt := Lib.hid (HSt.out.alloc10)
              refine hK _ _ trivial (fun _ _ => CXK.out _ HSt.out.1) ?_
              clear hK K
              try simp only [Act.put, List.setIfInBounds_toArray, List.set_cons_zero, List.set_cons_succ]
              have hgen : v9.alloc RZ = v9.alloc (.cells #[.int .i64 0, .int .i64 0, .string ⟨#[]⟩, .slice none 0 0, .slice none 0 0, .slice none 0 0, .int .i64 0] 35) := rfl
              rw [hgen] at HSt
              clear hgen
              generalize hgn : v9.alloc (.cells #[.int .i64 0, .int .i64 0, .string ⟨#[]⟩, .slice none 0 0, .slice none 0 0, .slice none 0 0, .int .i64 0] 35) = v12 at HSt ⊢
              clear hgn
              refine wpAnyS_ready [9] (by kernel_rfl) (by simp) ?_
              refine AllReadyS.cons ⟨some 51, .call { callee := .value (.func 30), args := #[.tmp 47, .tmp 49, .tmp 50], argTypes := #[26, 26, 26] }, 35, _, _, none⟩ rfl (fun K hK => ?_) AllReadyS.nil
              go_simp
              go_at_call 30
              refine (HSPB.out _ HSt.out.1).mono ?_
              rintro e v13 ⟨g0, g1, g2, g3, g4, g5, es, s, rfl, hx, hj, hres⟩
              obtain ⟨qs1, qs1n, qs2, qs2n, qs3, qs3n, rfl, rfl, rfl, rfl, rfl, rfl⟩ := hj.cells6
              replace HSt := Lib.hid (HSt.out.call2 hx hj)
              have HRs := Lib.hid hres
              clear hx hj hres
              try go_simp
              refine hK _ _ trivial (fun _ _ => CXK.out _ HSt.out.1) ?_
              clear hK K
              try simp only [Act.put, List.setIfInBounds_toArray, List.set_cons_zero, List.set_cons_succ]
              refine wpAnyS_rest 12 (fun _ => trivial) rfl (by kernel_rfl) (by kernel_rfl) ?_
              simp only [List.drop_succ_cons, List.drop_zero]
              have hc := HSt.out.cells
              obtain ⟨r0, r1, r2, r3, r4, r5, r6⟩ := hc.1.c
              have rf := hc.1.f
              have hc2 := hc.2 (.int .i64 r.kind) (.int .i64 r.half) (.string r.text) (.slice qr1 r.list.length qr1n) (.slice qr2 r.keys.length qr2n) (.slice qr3 r.vals.length qr3n) (.int .i64 er)
              obtain ⟨s0, s1, s2, s3, s4, s5, s6⟩ := hc2.c
              have sf := hc2.f
              unfold set7 set6 at s0 s1 s2 s3 s4 s5 s6 sf
              clear hc hc2
              go_wp2_with fail
              go_meet
              have hf := St.fin er es HSt.out rfl
              exact ⟨_, _, r, s, qr1, qr1n, qr2, qr2n, qr3, qr3n, qs1, qs1n, qs2, qs2n, qs3, qs3n, er, es, rfl, rfl, hf.1, hf.2.1, hf.2.2.1, hf.2.2.2.1, hf.2.2.2.2, HRr.out, HRs.out⟩
            refine AllReadyS.cons ⟨some 10, .alloc 35, 0, _, _, none⟩ rfl (fun K hK => ?_) AllReadyS.nil
            go_simp
            replace HSt := Lib.hid (HSt.out.alloc10)
            refine hK _ _ trivial (fun _ _ => CXK.out _ HSt.out.1) ?_
            clear hK K
            try simp only [Act.put, List.setIfInBounds_toArray, List.set_cons_zero, List.set_cons_succ]
            have hgen : v3.alloc RZ = v3.alloc (.cells #[.int .i64 0, .int .i64 0, .string ⟨#[]⟩, .slice none 0 0, .slice none 0 0, .slice none 0 0, .int .i64 0] 35) := rfl
            rw [hgen] at HSt
            clear hgen
            generalize hgn : v3.alloc (.cells #[.int .i64 0, .int .i64 0, .string ⟨#[]⟩, .slice none 0 0, .slice none 0 0, .slice none 0 0, .int .i64 0] 35) = v14 at HSt ⊢
            clear hgn
            refine wpAnyS_ready [9, 10] (by kernel_rfl) (by simp) ?_
            refine AllReadyS.cons ⟨some 51, .call { callee := .value (.func 30), args := #[.tmp 47, .tmp 49, .tmp 50], argTypes := #[26, 26, 26] }, 35, _, _, none⟩ rfl (fun K hK => ?_) ?_
            focus
              go_simp
              go_at_call 30
              refine (HSPB.out _ HSt.out.1).mono ?_
              rintro e v15 ⟨g0, g1, g2, g3, g4, g5, es, s, rfl, hx, hj, hres⟩
              obtain ⟨qs1, qs1n, qs2, qs2n, qs3, qs3n, rfl, rfl, rfl, rfl, rfl, rfl⟩ := hj.cells6
              replace HSt := Lib.hid (HSt.out.call2 hx hj)
              have HRs := Lib.hid hres
              clear hx hj hres
              try go_simp
              refine hK _ _ trivial (fun _ _ => CXK.out _ HSt.out.1) ?_
              clear hK K
              try simp only [Act.put, List.setIfInBounds_toArray, List.set_cons_zero, List.set_cons_succ]
              refine wpAnyS_ready [10] (by kernel_rfl) (by simp) ?_
              refine AllReadyS.cons ⟨some 9, .alloc 35, 0, _, _, none⟩ rfl (fun K hK => ?_) AllReadyS.nil
              go_simp
              replace HSt := Lib.hid (HSt.out.alloc9)
              refine hK _ _ trivial (fun _ _ => CXK.out _ HSt.out.1) ?_
              clear hK K
              try simp only [Act.put, List.setIfInBounds_toArray, List.set_cons_zero, List.set_cons_succ]
              have hgen : v15.alloc RZ = v15.alloc (.cells #[.int .i64 0, .int .i64 0, .string ⟨#[]⟩, .slice none 0 0, .slice none 0 0, .slice none 0 0, .int .i64 0] 35) := rfl
              rw [hgen] at HSt
              clear hgen
              generalize hgn : v15.alloc (.cells #[.int .i64 0, .int .i64 0, .string ⟨#[]⟩, .slice none 0 0, .slice none 0 0, .slice none 0 0, .int .i64 0] 35) = v16 at HSt ⊢
              clear hgn
              refine wpAnyS_rest 12 (fun _ => trivial) rfl (by kernel_rfl) (by kernel_rfl) ?_
              simp only [List.drop_succ_cons, List.drop_zero]
              have hc := HSt.out.cells
              obtain ⟨r0, r1, r2, r3, r4, r5, r6⟩ := hc.1.c
              have rf := hc.1.f
              have hc2 := hc.2 (.int .i64 r.kind) (.int .i64 r.half) (.string r.text) (.slice qr1 r.list.length qr1n) (.slice qr2 r.keys.length qr2n) (.slice qr3 r.vals.length qr3n) (.int .i64 er)
              obtain ⟨s0, s1, s2, s3, s4, s5, s6⟩ := hc2.c
              have sf := hc2.f
              unfold set7 set6 at s0 s1 s2 s3 s4 s5 s6 sf
              clear hc hc2
              go_wp2_with fail
              go_meet
              have hf := St.fin er es HSt.out rfl
              exact ⟨_, _, r, s, qr1, qr1n, qr2, qr2n, qr3, qr3n, qs1, qs1n, qs2, qs2n, qs3, qs3n, er, es, rfl, rfl, hf.1, hf.2.1, hf.2.2.1, hf.2.2.2.1, hf.2.2.2.2, HRr.out, HRs.out⟩
            refine AllReadyS.cons ⟨some 9, .alloc 35, 0, _, _, none⟩ rfl (fun K hK => ?_) AllReadyS.nil
            go_simp
            replace HSt := Lib.hid (HSt.out.alloc9)
            refine hK _ _ trivial (fun _ _ => CXK.out _ HSt.out.1) ?_
            clear hK K
            try simp only [Act.put, List.setIfInBounds_toArray, List.set_cons_zero, List.set_cons_succ]
            have hgen : v14.alloc RZ = v14.alloc (.cells #[.int .i64 0, .int .i64 0, .string ⟨#[]⟩, .slice none 0 0, .slice none 0 0, .slice none 0 0, .int .i64 0] 35) := rfl
            rw [hgen] at HSt
            clear hgen
            generalize hgn : v14.alloc (.cells #[.int .i64 0, .int .i64 0, .string ⟨#[]⟩, .slice none 0 0, .slice none 0 0, .slice none 0 0, .int .i64 0] 35) = v17 at HSt ⊢
            clear hgn
            refine wpAnyS_ready [9] (by kernel_rfl) (by simp) ?_
            refine AllReadyS.cons ⟨some 51, .call { callee := .value (.func 30), args := #[.tmp 47, .tmp 49, .tmp 50], argTypes := #[26, 26, 26] }, 35, _, _, none⟩ rfl (fun K hK => ?_) AllReadyS.nil
            go_simp
            go_at_call 30
            refine (HSPB.out _ HSt.out.1).mono ?_
            rintro e v18 ⟨g0, g1, g2, g3, g4, g5, es, s, rfl, hx, hj, hres⟩
            obtain ⟨qs1, qs1n, qs2, qs2n, qs3, qs3n, rfl, rfl, rfl, rfl, rfl, rfl⟩ := hj.cells6
            replace HSt := Lib.hid (HSt.out.call2 hx hj)
            have HRs := Lib.hid hres
            clear hx hj hres
            try go_simp
            refine hK _ _ trivial (fun _ _ => CXK.out _ HSt.out.1) ?_
            clear hK K
            try simp only [Act.put, List.setIfInBounds_toArray, List.set_cons_zero, List.set_cons_succ]
            refine wpAnyS_rest 12 (fun _ => trivial) rfl (by kernel_rfl) (by kernel_rfl) ?_
            simp only [List.drop_succ_cons, List.drop_zero]
            have hc := HSt.out.cells
            obtain ⟨r0, r1, r2, r3, r4, r5, r6⟩ := hc.1.c
            have rf := hc.1.f
            have hc2 := hc.2 (.int .i64 r.kind) (.int .i64 r.half) (.string r.text) (.slice qr1 r.list.length qr1n) (.slice qr2 r.keys.length qr2n) (.slice qr3 r.vals.length qr3n) (.int .i64 er)
            obtain ⟨s0, s1, s2, s3, s4, s5, s6⟩ := hc2.c
            have sf := hc2.f
            unfold set7 set6 at s0 s1 s2 s3 s4 s5 s6 sf
            clear hc hc2
            go_wp2_with fail
            go_meet
            have hf := St.fin er es HSt.out rfl
            exact ⟨_, _, r, s, qr1, qr1n, qr2, qr2n, qr3, qr3n, qs1, qs1n, qs2, qs2n, qs3, qs3n, er, es, rfl, rfl, hf.1, hf.2.1, hf.2.2.1, hf.2.2.2.1, hf.2.2.2.2, HRr.out, HRs.out⟩
          refine AllReadyS.cons ⟨some 9, .alloc 35, 0, _, _, none⟩ rfl (fun K hK => ?_) ?_
          focus
            go_simp
            replace HSt := Lib.hid (HSt.out.alloc9)
            refine hK _ _ trivial (fun _ _ => CXK.out _ HSt.out.1) ?_
            clear hK K
            try simp only [Act.put, List.setIfInBounds_toArray, List.set_cons_zero, List.set_cons_succ]
            have hgen : v2.alloc RZ = v2.alloc (.cells #[.int .i64 0, .int .i64 0, .string ⟨#[]⟩, .slice none 0 0, .slice none 0 0, .slice none 0 0, .int .i64 0] 35) := rfl
            rw [hgen] at HSt
            clear hgen
            generalize hgn : v2.alloc (.cells #[.int .i64 0, .int .i64 0, .string ⟨#[]⟩, .slice none 0 0, .slice none 0 0, .slice none 0 0, .int .i64 0] 35) = v19 at HSt ⊢
            clear hgn
            refine wpAnyS_ready [7, 11] (by kernel_rfl) (by simp) ?_
            refine AllReadyS.cons ⟨some 49, .call { callee := .value (.func 12), args := #[.tmp 48], argTypes := #[23] }, 26, _, _, none⟩ rfl (fun K hK => ?_) ?_
            focus
              go_simp
              go_at_call 12
              refine (HARR.out _).mono ?_
              rintro e v20 ⟨rfl, hx⟩
              replace HSt := Lib.hid (HSt.out.step hx)
              clear hx
              try go_simp
              refine hK _ _ trivial (fun _ _ => CXK.out _ HSt.out.1) ?_
              clear hK K
              try simp only [Act.put, List.setIfInBounds_toArray, List.set_cons_zero, List.set_cons_succ]
              refine wpAnyS_ready [9, 11] (by kernel_rfl) (by simp) ?_
              refine AllReadyS.cons ⟨some 51, .call { callee := .value (.func 30), args := #[.tmp 47, .tmp 49, .tmp 50], argTypes := #[26, 26, 26] }, 35, _, _, none⟩ rfl (fun K hK => ?_) ?_
              focus
                go_simp
                go_at_call 30
                refine (HSPB.out _ HSt.out.1).mono ?_
                rintro e v21 ⟨g0, g1, g2, g3, g4, g5, es, s, rfl, hx, hj, hres⟩
                obtain ⟨qs1, qs1n, qs2, qs2n, qs3, qs3n, rfl, rfl, rfl, rfl, rfl, rfl⟩ := hj.cells6
                replace HSt := Lib.hid (HSt.out.call2 hx hj)
                have HRs := Lib.hid hres
                clear hx hj hres
                try go_simp
                refine hK _ _ trivial (fun _ _ => CXK.out _ HSt.out.1) ?_
                clear hK K
                try simp only [Act.put, List.setIfInBounds_toArray, List.set_cons_zero, List.set_cons_succ]
                refine wpAnyS_ready [11] (by kernel_rfl) (by simp) ?_
                refine AllReadyS.cons ⟨some 10, .alloc 35, 0, _, _, none⟩ rfl (fun K hK => ?_) AllReadyS.nil
                go_simp
                replace HSt := Lib.hid (HSt.out.alloc10)
                refine hK _ _ trivial (fun _ _ => CXK.out _ HSt.out.1) ?_
                clear hK K
                try simp only [Act.put, List.setIfInBounds_toArray, List.set_cons_zero, List.set_cons_succ]
                have hgen : v21.alloc RZ = v21.alloc (.cells #[.int .i64 0, .int .i64 0, .string ⟨#[]⟩, .slice none 0 0, .slice none 0 0, .slice none 0 0, .int .i64 0] 35) := rfl
                rw [hgen] at HSt
                clear hgen
                generalize hgn : v21.alloc (.cells #[.int .i64 0, .int .i64 0, .string ⟨#[]⟩, .slice none 0 0, .slice none 0 0, .slice none 0 0, .int .i64 0] 35) = v22 at HSt ⊢
                clear hgn
                refine wpAnyS_rest 12 (fun _ => trivial) rfl (by kernel_rfl) (by kernel_rfl) ?_
                simp only [List.drop_succ_cons, List.drop_zero]
                have hc := HSt.out.cells
                obtain ⟨r0, r1, r2, r3, r4, r5, r6⟩ := hc.1.c
                have rf := hc.1.f
                have hc2 := hc.2 (.int .i64 r.kind) (.int .i64 r.half) (.string r.text) (.slice qr1 r.list.length qr1n) (.slice qr2 r.keys.length qr2n) (.slice qr3 r.vals.length qr3n) (.int .i64 er)
                obtain ⟨s0, s1, s2, s3, s4, s5, s6⟩ := hc2.c
                have sf := hc2.f
                unfold set7 set6 at s0 s1 s2 s3 s4 s5 s6 sf
                clear hc hc2
                go_wp2_with fail
                go_meet
                have hf := St.fin er es HSt.out rfl
                exact ⟨_, _, r, s, qr1, qr1n, qr2, qr2n, qr3, qr3n, qs1, qs1n, qs2, qs2n, qs3, qs3n, er, es, rfl, rfl, hf.1, hf.2.1, hf.2.2.1, hf.2.2.2.1, hf.2.2.2.2, HRr.out, HRs.out⟩
              refine AllReadyS.cons ⟨some 10, .alloc 35, 0, _, _, none⟩ rfl (fun K hK => ?_) AllReadyS.nil
              go_simp
              replace HSt := Lib.hid (HSt.out.alloc10)
              refine hK _ _ trivial (fun _ _ => CXK.out _ HSt.out.1) ?_
              clear hK K
              try simp only [Act.put, List.setIfInBounds_toArray, List.set_cons_zero, List.set_cons_succ]
              have hgen : v20.alloc RZ = v20.alloc (.cells #[.int .i64 0, .int .i64 0, .string ⟨#[]⟩, .slice none 0 0, .slice none 0 0, .slice none 0 0, .int .i64 0] 35) := rfl
              rw [hgen] at HSt
              clear hgen
              generalize hgn : v20.alloc (.cells #[.int .i64 0, .int .i64 0, .string ⟨#[]⟩, .slice none 0 0, .slice none 0 0, .slice none 0 0, .int .i64 0] 35) = v23 at HSt ⊢
              clear hgn
              refine wpAnyS_ready [9] (by kernel_rfl) (by simp) ?_
              refine AllReadyS.cons ⟨some 51, .call { callee := .value (.func 30), args := #[.tmp 47, .tmp 49, .tmp 50], argTypes := #[26, 26, 26] }, 35, _, _, none⟩ rfl (fun K hK => ?_) AllReadyS.nil
              go_simp
              go_at_call 30
              refine (HSPB.out _ HSt.out.1).mono ?_
              rintro e v24 ⟨g0, g1, g2, g3, g4, g5, es, s, rfl, hx, hj, hres⟩
              obtain ⟨qs1, qs1n, qs2, qs2n, qs3, qs3n, rfl, rfl, rfl, rfl, rfl, rfl⟩ := hj.cells6
              replace HSt := Lib.hid (HSt.out.call2 hx hj)
              have HRs := Lib.hid hres
              clear hx hj hres
              try go_simp
              refine hK _ _ trivial (fun _ _ => CXK.out _ HSt.out.1) ?_
              clear hK K
              try simp only [Act.put, List.setIfInBounds_toArray, List.set_cons_zero, List.set_cons_succ]
              refine wpAnyS_rest 12 (fun _ => trivial) rfl (by kernel_rfl) (by kernel_rfl) ?_
              simp only [List.drop_succ_cons, List.drop_zero]
              have hc := HSt.out.cells
              obtain ⟨r0, r1, r2, r3, r4, r5, r6⟩ := hc.1.c
              have rf := hc.1.f
              have hc2 := hc.2 (.int .i64 r.kind) (.int .i64 r.half) (.string r.text) (.slice qr1 r.list.length qr1n) (.slice qr2 r.keys.length qr2n) (.slice qr3 r.vals.length qr3n) (.int .i64 er)
              obtain ⟨s0, s1, s2, s3, s4, s5, s6⟩ := hc2.c
              have sf := hc2.f
              unfold set7 set6 at s0 s1 s2 s3 s4 s5 s6 sf
              clear hc hc2
              go_wp2_with fail
              go_meet
              have hf := St.fin er es HSt.out rfl
              exact ⟨_, _, r, s, qr1, qr1n, qr2, qr2n, qr3, qr3n, qs1, qs1n, qs2, qs2n, qs3, qs3n, er, es, rfl, rfl, hf.1, hf.2.1, hf.2.2.1, hf.2.2.2.1, hf.2.2.2.2, HRr.out, HRs.out⟩
            refine AllReadyS.cons ⟨some 10, .alloc 35, 0, _, _, none⟩ rfl (fun K hK => ?_) AllReadyS.nil
            go_simp
            replace HSt := Lib.hid (HSt.out.alloc10)
            refine hK _ _ trivial (fun _ _ => CXK.out _ HSt.out.1) ?_
            clear hK K
            try simp only [Act.put, List.setIfInBounds_toArray, List.set_cons_zero, List.set_cons_succ]
            have hgen : v19.alloc RZ = v19.alloc (.cells #[.int .i64 0, .int .i64 0, .string ⟨#[]⟩, .slice none 0 0, .slice none 0 0, .slice none 0 0, .int .i64 0] 35) := rfl
            rw [hgen] at HSt
            clear hgen
            generalize hgn : v19.alloc (.cells #[.int .i64 0, .int .i64 0, .string ⟨#[]⟩, .slice none 0 0, .slice none 0 0, .slice none 0 0, .int .i64 0] 35) = v25 at HSt ⊢
            clear hgn
            refine wpAnyS_ready [7] (by kernel_rfl) (by simp) ?_
            refine AllReadyS.cons ⟨some 49, .call { callee := .value (.func 12), args := #[.tmp 48], argTypes := #[23] }, 26, _, _, none⟩ rfl (fun K hK => ?_) AllReadyS.nil
            go_simp
            go_at_call 12
            refine (HARR.out _).mono ?_
            rintro e v26 ⟨rfl, hx⟩
            replace HSt := Lib.hid (HSt.out.step hx)
            clear hx
            try go_simp
            refine hK _ _ trivial (fun _ _ => CXK.out _ HSt.out.1) ?_
            clear hK K
            try simp only [Act.put, List.setIfInBounds_toArray, List.set_cons_zero, List.set_cons_succ]
            refine wpAnyS_ready [9] (by kernel_rfl) (by simp) ?_
            refine AllReadyS.cons ⟨some 51, .call { callee := .value (.func 30), args := #[.tmp 47, .tmp 49, .tmp 50], argTypes := #[26, 26, 26] }, 35, _, _, none⟩ rfl (fun K hK => ?_) AllReadyS.nil
            go_simp
            go_at_call 30
            refine (HSPB.out _ HSt.out.1).mono ?_
            rintro e v27 ⟨g0, g1, g2, g3, g4, g5, es, s, rfl, hx, hj, hres⟩
            obtain ⟨qs1, qs1n, qs2, qs2n, qs3, qs3n, rfl, rfl, rfl, rfl, rfl, rfl⟩ := hj.cells6
            replace HSt := Lib.hid (HSt.out.call2 hx hj)
            have HRs := Lib.hid hres
            clear hx hj hres
            try go_simp
            refine hK _ _ trivial (fun _ _ => CXK.out _ HSt.out.1) ?_
            clear hK K
            try simp only [Act.put, List.setIfInBounds_toArray, List.set_cons_zero, List.set_cons_succ]
            refine wpAnyS_rest 12 (fun _ => trivial) rfl (by kernel_rfl) (by kernel_rfl) ?_
            simp only [List.drop_succ_cons, List.drop_zero]
            have hc := HSt.out.cells
            obtain ⟨r0, r1, r2, r3, r4, r5, r6⟩ := hc.1.c
            have rf := hc.1.f
            have hc2 := hc.2 (.int .i64 r.kind) (.int .i64 r.half) (.string r.text) (.slice qr1 r.list.length qr1n) (.slice qr2 r.keys.length qr2n) (.slice qr3 r.vals.length qr3n) (.int .i64 er)
            obtain ⟨s0, s1, s2, s3, s4, s5, s6⟩ := hc2.c
            have sf := hc2.f
            unfold set7 set6 at s0 s1 s2 s3 s4 s5 s6 sf
            clear hc hc2
            go_wp2_with fail
            go_meet
            have hf := St.fin er es HSt.out rfl
            exact ⟨_, _, r, s, qr1, qr1n, qr2, qr2n, qr3, qr3n, qs1, qs1n, qs2, qs2n, qs3, qs3n, er, es, rfl, rfl, hf.1, hf.2.1, hf.2.2.1, hf.2.2.2.1, hf.2.2.2.2, HRr.out, HRs.out⟩
          refine AllReadyS.cons ⟨some 10, .alloc 35, 0, _, _, none⟩ rfl (fun K hK => ?_) AllReadyS.nil
          go_simp
          replace HSt := Lib.hid (HSt.out.alloc10)
          refine hK _ _ trivial (fun _ _ => CXK.out _ HSt.out.1) ?_
          clear hK K
          try simp only [Act.put, List.setIfInBounds_toArray, List.set_cons_zero, List.set_cons_succ]
          have hgen : v2.alloc RZ = v2.alloc (.cells #[.int .i64 0, .int .i64 0, .string ⟨#[]⟩, .slice none 0 0, .slice none 0 0, .slice none 0 0, .int .i64 0] 35) := rfl
          rw [hgen] at HSt
          clear hgen
          generalize hgn : v2.alloc (.cells #[.int .i64 0, .int .i64 0, .string ⟨#[]⟩, .slice none 0 0, .slice none 0 0, .slice none 0 0, .int .i64 0] 35) = v28 at HSt ⊢
          clear hgn
          refine wpAnyS_ready [7, 10] (by kernel_rfl) (by simp) ?_
          refine AllReadyS.cons ⟨some 49, .call { callee := .value (.func 12), args := #[.tmp 48], argTypes := #[23] }, 26, _, _, none⟩ rfl (fun K hK => ?_) ?_
          focus
            go_simp
            go_at_call 12
            refine (HARR.out _).mono ?_
            rintro e v29 ⟨rfl, hx⟩
            replace HSt := Lib.hid (HSt.out.step hx)
            clear hx
            try go_simp
            refine hK _ _ trivial (fun _ _ => CXK.out _ HSt.out.1) ?_
            clear hK K
            try simp only [Act.put, List.setIfInBounds_toArray, List.set_cons_zero, List.set_cons_succ]
            refine wpAnyS_ready [9, 10] (by kernel_rfl) (by simp) ?_
            refine AllReadyS.cons ⟨some 51, .call { callee := .value (.func 30), args := #[.tmp 47, .tmp 49, .tmp 50], argTypes := #[26, 26, 26] }, 35, _, _, none⟩ rfl (fun K hK => ?_) ?_
            focus
              go_simp
              go_at_call 30
              refine (HSPB.out _ HSt.out.1).mono ?_
              rintro e v30 ⟨g0, g1, g2, g3, g4, g5, es, s, rfl, hx, hj, hres⟩
              obtain ⟨qs1, qs1n, qs2, qs2n, qs3, qs3n, rfl, rfl, rfl, rfl, rfl, rfl⟩ := hj.cells6
              replace HSt := Lib.hid (HSt.out.call2 hx hj)
              have HRs := Lib.hid hres
              clear hx hj hres
              try go_simp
              refine hK _ _ trivial (fun _ _ => CXK.out _ HSt.out.1) ?_
              clear hK K
              try simp only [Act.put, List.setIfInBounds_toArray, List.set_cons_zero, List.set_cons_succ]
              refine wpAnyS_ready [10] (by kernel_rfl) (by simp) ?_
              refine AllReadyS.cons ⟨some 9, .alloc 35, 0, _, _, none⟩ rfl (fun K hK => ?_) AllReadyS.nil
              go_simp
              replace HSt := Lib.hid (HSt.out.alloc9)
              refine hK _ _ trivial (fun _ _ => CXK.out _ HSt.out.1) ?_
              clear hK K
              try simp only [Act.put, List.setIfInBounds_toArray, List.set_cons_zero, List.set_cons_succ]
              have hgen : v30.alloc RZ = v30.alloc (.cells #[.int .i64 0, .int .i64 0, .string ⟨#[]⟩, .slice none 0 0, .slice none 0 0, .slice none 0 0, .int .i64 0] 35) := rfl
              rw [hgen] at HSt
              clear hgen
              generalize hgn : v30.alloc (.cells #[.int .i64 0, .int .i64 0, .string ⟨#[]⟩, .slice none 0 0, .slice none 0 0, .slice none 0 0, .int .i64 0] 35) = v31 at HSt ⊢
              clear hgn
              refine wpAnyS_rest 12 (fun _ => trivial) rfl (by kernel_rfl) (by kernel_rfl) ?_
              simp only [List.drop_succ_cons, List.drop_zero]
              have hc := HSt.out.cells
              obtain ⟨r0, r1, r2, r3, r4, r5, r6⟩ := hc.1.c
              have rf := hc.1.f
              have hc2 := hc.2 (.int .i64 r.kind) (.int .i64 r.half) (.string r.text) (.slice qr1 r.list.length qr1n) (.slice qr2 r.keys.length qr2n) (.slice qr3 r.vals.length qr3n) (.int .i64 er)
              obtain ⟨s0, s1, s2, s3, s4, s5, s6⟩ := hc2.c
              have sf := hc2.f
              unfold set7 set6 at s0 s1 s2 s3 s4 s5 s6 sf
              clear hc hc2
              go_wp2_with fail
              go_meet
              have hf := St.fin er es HSt.out rfl
              exact ⟨_, _, r, s, qr1, qr1n, qr2, qr2n, qr3, qr3n, qs1, qs1n, qs2, qs2n, qs3, qs3n, er, es, rfl, rfl, hf.1, hf.2.1, hf.2.2.1, hf.2.2.2.1, hf.2.2.2.2, HRr.out, HRs.out⟩
            refine AllReadyS.cons ⟨some 9, .alloc 35, 0, _, _, none⟩ rfl (fun K hK => ?_) AllReadyS.nil
            go_simp
            replace HSt := Lib.hid (HSt.out.alloc9)
            refine hK _ _ trivial (fun _ _ => CXK.out _ HSt.out.1) ?_
            clear hK K
            try simp only [Act.put, List.setIfInBounds_toArray, List.set_cons_zero, List.set_cons_succ]
            have hgen : v29.alloc RZ = v29.alloc (.cells #[.int .i64 0, .int .i64 0, .string ⟨#[]⟩, .slice none 0 0, .slice none 0 0, .slice none 0 0, .int .i64 0] 35) := rfl
            rw [hgen] at HSt
            clear hgen
            generalize hgn : v29.alloc (.cells #[.int .i64 0, .int .i64 0, .string ⟨#[]⟩, .slice none 0 0, .slice none 0 0, .slice none 0 0, .int .i64 0] 35) = v32 at HSt ⊢
            clear hgn
            refine wpAnyS_ready [9] (by kernel_rfl) (by simp) ?_
            refine AllReadyS.cons ⟨some 51, .call { callee := .value (.func 30), args := #[.tmp 47, .tmp 49, .tmp 50], argTypes := #[26, 26, 26] }, 35, _, _, none⟩ rfl (fun K hK => ?_) AllReadyS.nil
            go_simp
            go_at_call 30
            refine (HSPB.out _ HSt.out.1).mono ?_
            rintro e v33 ⟨g0, g1, g2, g3, g4, g5, es, s, rfl, hx, hj, hres⟩
            obtain ⟨qs1, qs1n, qs2, qs2n, qs3, qs3n, rfl, rfl, rfl, rfl, rfl, rfl⟩ := hj.cells6
            replace HSt := Lib.hid (HSt.out.call2 hx hj)
            have HRs := Lib.hid hres
            clear hx hj hres
            try go_simp
            refine hK _ _ trivial (fun _ _ => CXK.out _ HSt.out.1) ?_
            clear hK K
            try simp only [Act.put, List.setIfInBounds_toArray, List.set_cons_zero, List.set_cons_succ]
            refine wpAnyS_rest 12 (fun _ => trivial) rfl (by kernel_rfl) (by kernel_rfl) ?_
            simp only [List.drop_succ_cons, List.drop_zero]
            have hc := HSt.out.cells
            obtain ⟨r0, r1, r2, r3, r4, r5, r6⟩ := hc.1.c
            have rf := hc.1.f
            have hc2 := hc.2 (.int .i64 r.kind) (.int .i64 r.half) (.string r.text) (.slice qr1 r.list.length qr1n) (.slice qr2 r.keys.length qr2n) (.slice qr3 r.vals.length qr3n) (.int .i64 er)
            obtain ⟨s0, s1, s2, s3, s4, s5, s6⟩ := hc2.c
            have sf := hc2.f
            unfold set7 set6 at s0 s1 s2 s3 s4 s5 s6 sf
            clear hc hc2
            go_wp2_with fail
            go_meet
            have hf := St.fin er es HSt.out rfl
            exact ⟨_, _, r, s, qr1, qr1n, qr2, qr2n, qr3, qr3n, qs1, qs1n, qs2, qs2n, qs3, qs3n, er, es, rfl, rfl, hf.1, hf.2.1, hf.2.2.1, hf.2.2.2.1, hf.2.2.2.2, HRr.out, HRs.out⟩
          refine AllReadyS.cons ⟨some 9, .alloc 35, 0, _, _, none⟩ rfl (fun K hK => ?_) AllReadyS.nil
          go_simp
          replace HSt := Lib.hid (HSt.out.alloc9)
          refine hK _ _ trivial (fun _ _ => CXK.out _ HSt.out.1) ?_
          clear hK K
          try simp only [Act.put, List.setIfInBounds_toArray, List.set_cons_zero, List.set_cons_succ]
          have hgen : v28.alloc RZ = v28.alloc (.cells #[.int .i64 0, .int .i64 0, .string ⟨#[]⟩, .slice none 0 0, .slice none 0 0, .slice none 0 0, .int .i64 0] 35) := rfl
          rw [hgen] at HSt
          clear hgen
          generalize hgn : v28.alloc (.cells #[.int .i64 0, .int .i64 0, .string ⟨#[]⟩, .slice none 0 0, .slice none 0 0, .slice none 0 0, .int .i64 0] 35) = v34 at HSt ⊢
          clear hgn
          refine wpAnyS_ready [7] (by kernel_rfl) (by simp) ?_
          refine AllReadyS.cons ⟨some 49, .call { callee := .value (.func 12), args := #[.tmp 48], argTypes := #[23] }, 26, _, _, none⟩ rfl (fun K hK => ?_) AllReadyS.nil
          go_simp
          go_at_call 12
          refine (HARR.out _).mono ?_
          rintro e v35 ⟨rfl, hx⟩
          replace HSt := Lib.hid (HSt.out.step hx)
          clear hx
          try go_simp
          refine hK _ _ trivial (fun _ _ => CXK.out _ HSt.out.1) ?_
          clear hK K
          try simp only [Act.put, List.setIfInBounds_toArray, List.set_cons_zero, List.set_cons_succ]
          refine wpAnyS_ready [9] (by kernel_rfl) (by simp) ?_
          refine AllReadyS.cons ⟨some 51, .call { callee := .value (.func 30), args := #[.tmp 47, .tmp 49, .tmp 50], argTypes := #[26, 26, 26] }, 35, _, _, none⟩ rfl (fun K hK => ?_) AllReadyS.nil
          go_simp
          go_at_call 30
          refine (HSPB.out _ HSt.out.1).mono ?_
          rintro e v36 ⟨g0, g1, g2, g3, g4, g5, es, s, rfl, hx, hj, hres⟩
          obtain ⟨qs1, qs1n, qs2, qs2n, qs3, qs3n, rfl, rfl, rfl, rfl, rfl, rfl⟩ := hj.cells6
          replace HSt := Lib.hid (HSt.out.call2 hx hj)
          have HRs := Lib.hid hres
          clear hx hj hres
          try go_simp
          refine hK _ _ trivial (fun _ _ => CXK.out _ HSt.out.1) ?_
          clear hK K
          try simp only [Act.put, List.setIfInBounds_toArray, List.set_cons_zero, List.set_cons_succ]
          refine wpAnyS_rest 12 (fun _ => trivial) rfl (by kernel_rfl) (by kernel_rfl) ?_
          simp only [List.drop_succ_cons, List.drop_zero]
          have hc := HSt.out.cells
          obtain ⟨r0, r1, r2, r3, r4, r5, r6⟩ := hc.1.c
          have rf := hc.1.f
          have hc2 := hc.2 (.int .i64 r.kind) (.int .i64 r.half) (.string r.text) (.slice qr1 r.list.length qr1n) (.slice qr2 r.keys.length qr2n) (.slice qr3 r.vals.length qr3n) (.int .i64 er)
          obtain ⟨s0, s1, s2, s3, s4, s5, s6⟩ := hc2.c
          have sf := hc2.f
          unfold set7 set6 at s0 s1 s2 s3 s4 s5 s6 sf
          clear hc hc2
          go_wp2_with fail
          go_meet
          have hf := St.fin er es HSt.out rfl
          exact ⟨_, _, r, s, qr1, qr1n, qr2, qr2n, qr3, qr3n, qs1, qs1n, qs2, qs2n, qs3, qs3n, er, es, rfl, rfl, hf.1, hf.2.1, hf.2.2.1, hf.2.2.2.1, hf.2.2.2.2, HRr.out, HRs.out⟩
        refine AllReadyS.cons ⟨some 9, .alloc 35, 0, _, _, none⟩ rfl (fun K hK => ?_) ?_
        focus
          go_simp
          replace HSt := Lib.hid (HSt.out.alloc9)
          refine hK _ _ trivial (fun _ _ => CXK.out _ HSt.out.1) ?_
          clear hK K
          try simp only [Act.put, List.setIfInBounds_toArray, List.set_cons_zero, List.set_cons_succ]
          have hgen : v1.alloc RZ = v1.alloc (.cells #[.int .i64 0, .int .i64 0, .string ⟨#[]⟩, .slice none 0 0, .slice none 0 0, .slice none 0 0, .int .i64 0] 35) := rfl
          rw [hgen] at HSt
          clear hgen
          generalize hgn : v1.alloc (.cells #[.int .i64 0, .int .i64 0, .string ⟨#[]⟩, .slice none 0 0, .slice none 0 0, .slice none 0 0, .int .i64 0] 35) = v37 at HSt ⊢
          clear hgn
          refine wpAnyS_ready [4, 11] (by kernel_rfl) (by simp) ?_
          refine AllReadyS.cons ⟨some 46, .call { callee := .value (.func 30), args := #[.tmp 42, .tmp 44, .tmp 45], argTypes := #[26, 26, 26] }, 35, _, _, none⟩ rfl (fun K hK => ?_) ?_
          focus
            go_simp
            go_at_call 30
            refine (HSPA.out _ HSt.out.1).mono ?_
            rintro e v38 ⟨g0, g1, g2, g3, g4, g5, er, r, rfl, hx, hj, hres⟩
            obtain ⟨qr1, qr1n, qr2, qr2n, qr3, qr3n, rfl, rfl, rfl, rfl, rfl, rfl⟩ := hj.cells6
            replace HSt := Lib.hid (HSt.out.call1 hx hj)
            have HRr := Lib.hid hres
            clear hx hj hres
            try go_simp
            refine hK _ _ trivial (fun _ _ => CXK.out _ HSt.out.1) ?_
            clear hK K
            try simp only [Act.put, List.setIfInBounds_toArray, List.set_cons_zero, List.set_cons_succ]
            refine wpAnyS_ready [7, 11] (by kernel_rfl) (by simp) ?_
            refine AllReadyS.cons ⟨some 49, .call { callee := .value (.func 12), args := #[.tmp 48], argTypes := #[23] }, 26, _, _, none⟩ rfl (fun K hK => ?_) ?_
            focus
              go_simp
              go_at_call 12
              refine (HARR.out _).mono ?_
              rintro e v39 ⟨rfl, hx⟩
              replace HSt := Lib.hid (HSt.out.step hx)
              clear hx
              try go_simp
              refine hK _ _ trivial (fun _ _ => CXK.out _ HSt.out.1) ?_
              clear hK K
              try simp only [Act.put, List.setIfInBounds_toArray, List.set_cons_zero, List.set_cons_succ]
              refine wpAnyS_ready [9, 11] (by kernel_rfl) (by simp) ?_
              refine AllReadyS.cons ⟨some 51, .call { callee := .value (.func 30), args := #[.tmp 47, .tmp 49, .tmp 50], argTypes := #[26, 26, 26] }, 35, _, _, none⟩ rfl (fun K hK => ?_) ?_
              focus
                go_simp
                go_at_call 30
                refine (HSPB.out _ HSt.out.1).mono ?_
                rintro e v40 ⟨g0, g1, g2, g3, g4, g5, es, s, rfl, hx, hj, hres⟩
                obtain ⟨qs1, qs1n, qs2, qs2n, qs3, qs3n, rfl, rfl, rfl, rfl, rfl, rfl⟩ := hj.cells6
                replace HSt := Lib.hid (HSt.out.call2 hx hj)
                have HRs := Lib.hid hres
                clear hx hj hres
                try go_simp
                refine hK _ _ trivial (fun _ _ => CXK.out _ HSt.out.1) ?_
                clear hK K
                try simp only [Act.put, List.setIfInBounds_toArray, List.set_cons_zero, List.set_cons_succ]
                refine wpAnyS_ready [11] (by kernel_rfl) (by simp) ?_
                refine AllReadyS.cons ⟨some 10, .alloc 35, 0, _, _, none⟩ rfl (fun K hK => ?_) AllReadyS.nil
                go_simp
                replace HSt := Lib.hid (HSt.out.alloc10)
                refine hK _ _ trivial (fun _ _ => CXK.out _ HSt.out.1) ?_
                clear hK K
                try simp only [Act.put, List.setIfInBounds_toArray, List.set_cons_zero, List.set_cons_succ]
                have hgen : v40.alloc RZ = v40.alloc (.cells #[.int .i64 0, .int .i64 0, .string ⟨#[]⟩, .slice none 0 0, .slice none 0 0, .slice none 0 0, .int .i64 0] 35) := rfl
                rw [hgen] at HSt
                clear hgen
                generalize hgn : v40.alloc (.cells #[.int .i64 0, .int .i64 0, .string ⟨#[]⟩, .slice none 0 0, .slice none 0 0, .slice none 0 0, .int .i64 0] 35) = v41 at HSt ⊢
                clear hgn
                refine wpAnyS_rest 12 (fun _ => trivial) rfl (by kernel_rfl) (by kernel_rfl) ?_
                simp only [List.drop_succ_cons, List.drop_zero]
                have hc := HSt.out.cells
                obtain ⟨r0, r1, r2, r3, r4, r5, r6⟩ := hc.1.c
                have rf := hc.1.f
                have hc2 := hc.2 (.int .i64 r.kind) (.int .i64 r.half) (.string r.text) (.slice qr1 r.list.length qr1n) (.slice qr2 r.keys.length qr2n) (.slice qr3 r.vals.length qr3n) (.int .i64 er)
                obtain ⟨s0, s1, s2, s3, s4, s5, s6⟩ := hc2.c
                have sf := hc2.f
                unfold set7 set6 at s0 s1 s2 s3 s4 s5 s6 sf
                clear hc hc2
                go_wp2_with fail
                go_meet
                have hf := St.fin er es HSt.out rfl
                exact ⟨_, _, r, s, qr1, qr1n, qr2, qr2n, qr3, qr3n, qs1, qs1n, qs2, qs2n, qs3, qs3n, er, es, rfl, rfl, hf.1, hf.2.1, hf.2.2.1, hf.2.2.2.1, hf.2.2.2.2, HRr.out, HRs.out⟩
              refine AllReadyS.cons ⟨some 10, .alloc 35, 0, _, _, none⟩ rfl (fun K hK => ?_) AllReadyS.nil
              go_simp
              replace HSt := Lib.hid (HSt.out.alloc10)
              refine hK _ _ trivial (fun _ _ => CXK.out _ HSt.out.1) ?_
              clear hK K
              try simp only [Act.put, List.setIfInBounds_toArray, List.set_cons_zero, List.set_cons_succ]
              have hgen : v39.alloc RZ = v39.alloc (.cells #[.int .i64 0, .int .i64 0, .string ⟨#[]⟩, .slice none 0 0, .slice none 0 0, .slice none 0 0, .int .i64 0] 35) := rfl
              rw [hgen] at HSt
              clear hgen
              generalize hgn : v39.alloc (.cells #[.int .i64 0, .int .i64 0, .string ⟨#[]⟩, .slice none 0 0, .slice none 0 0, .slice none 0 0, .int .i64 0] 35) = v42 at HSt ⊢
              clear hgn
              refine wpAnyS_ready [9] (by kernel_rfl) (by simp) ?_
              refine AllReadyS.cons ⟨some 51, .call { callee := .value (.func 30), args := #[.tmp 47, .tmp 49, .tmp 50], argTypes := #[26, 26, 26] }, 35, _, _, none⟩ rfl (fun K hK => ?_) AllReadyS.nil
              go_simp
              go_at_call 30
              refine (HSPB.out _ HSt.out.1).mono ?_
              rintro e v43 ⟨g0, g1, g2, g3, g4, g5, es, s, rfl, hx, hj, hres⟩
              obtain ⟨qs1, qs1n, qs2, qs2n, qs3, qs3n, rfl, rfl, rfl, rfl, rfl, rfl⟩ := hj.cells6
              replace HSt := Lib.hid (HSt.out.call2 hx hj)
              have HRs := Lib.hid hres
              clear hx hj hres
              try go_simp
              refine hK _ _ trivial (fun _ _ => CXK.out _ HSt.out.1) ?_
              clear hK K
              try simp only [Act.put, List.setIfInBounds_toArray, List.set_cons_zero, List.set_cons_succ]
              refine wpAnyS_rest 12 (fun _ => trivial) rfl (by kernel_rfl) (by kernel_rfl) ?_
              simp only [List.drop_succ_cons, List.drop_zero]
              have hc := HSt.out.cells
              obtain ⟨r0, r1, r2, r3, r4, r5, r6⟩ := hc.1.c
              have rf := hc.1.f
              have hc2 := hc.2 (.int .i64 r.kind) (.int .i64 r.half) (.string r.text) (.slice qr1 r.list.length qr1n) (.slice qr2 r.keys.length qr2n) (.slice qr3 r.vals.length qr3n) (.int .i64 er)
              obtain ⟨s0, s1, s2, s3, s4, s5, s6⟩ := hc2.c
              have sf := hc2.f
              unfold set7 set6 at s0 s1 s2 s3 s4 s5 s6 sf
              clear hc hc2
              go_wp2_with fail
              go_meet
              have hf := St.fin er es HSt.out rfl
              exact ⟨_, _, r, s, qr1, qr1n, qr2, qr2n, qr3, qr3n, qs1, qs1n, qs2, qs2n, qs3, qs3n, er, es, rfl, rfl, hf.1, hf.2.1, hf.2.2.1, hf.2.2.2.1, hf.2.2.2.2, HRr.out, HRs.out⟩
            refine AllReadyS.cons ⟨some 10, .alloc 35, 0, _, _, none⟩ rfl (fun K hK => ?_) AllReadyS.nil
            go_simp
            replace HSt := Lib.hid (HSt.out.alloc10)
            refine hK _ _ trivial (fun _ _ => CXK.out _ HSt.out.1) ?_
            clear hK K
            try simp only [Act.put, List.setIfInBounds_toArray, List.set_cons_zero, List.set_cons_succ]
            have hgen : v38.alloc RZ = v38.alloc (.cells #[.int .i64 0, .int .i64 0, .string ⟨#[]⟩, .slice none 0 0, .slice none 0 0, .slice none 0 0, .int .i64 0] 35) := rfl
            rw [hgen] at HSt
            clear hgen
            generalize hgn : v38.alloc (.cells #[.int .i64 0, .int .i64 0, .string ⟨#[]⟩, .slice none 0 0, .slice none 0 0, .slice none 0 0, .int .i64 0] 35) = v44 at HSt ⊢
            clear hgn
            refine wpAnyS_ready [7] (by kernel_rfl) (by simp) ?_
            refine AllReadyS.cons ⟨some 49, .call { callee := .value (.func 12), args := #[.tmp 48], argTypes := #[23] }, 26, _, _, none⟩ rfl (fun K hK => ?_) AllReadyS.nil
            go_simp
            go_at_call 12
            refine (HARR.out _).mono ?_
            rintro e v45 ⟨rfl, hx⟩
            replace HSt := Lib.hid (HSt.out.step hx)
            clear hx
            try go_simp
            refine hK _ _ trivial (fun _ _ => CXK.out _ HSt.out.1) ?_
            clear hK K
            try simp only [Act.put, List.setIfInBounds_toArray, List.set_cons_zero, List.set_cons_succ]
            refine wpAnyS_ready [9] (by kernel_rfl) (by simp) ?_
            refine AllReadyS.cons ⟨some 51, .call { callee := .value (.func 30), args := #[.tmp 47, .tmp 49, .tmp 50], argTypes := #[26, 26, 26] }, 35, _, _, none⟩ rfl (fun K hK => ?_) AllReadyS.nil
            go_simp
            go_at_call 30
            refine (HSPB.out _ HSt.out.1).mono ?_
            rintro e v46 ⟨g0, g1, g2, g3, g4, g5, es, s, rfl, hx, hj, hres⟩
            obtain ⟨qs1, qs1n, qs2, qs2n, qs3, qs3n, rfl, rfl, rfl, rfl, rfl, rfl⟩ := hj.cells6
            replace HSt := Lib.hid (HSt.out.call2 hx hj)
            have HRs := Lib.hid hres
            clear hx hj hres
            try go_simp
            refine hK _ _ trivial (fun _ _ => CXK.out _ HSt.out.1) ?_
            clear hK K
            try simp only [Act.put, List.setIfInBounds_toArray, List.set_cons_zero, List.set_cons_succ]
            refine wpAnyS_rest 12 (fun _ => trivial) rfl (by kernel_rfl) (by kernel_rfl) ?_
            simp only [List.drop_succ_cons, List.drop_zero]
            have hc := HSt.out.cells
            obtain ⟨r0, r1, r2, r3, r4, r5, r6⟩ := hc.1.c
            have rf := hc.1.f
            have hc2 := hc.2 (.int .i64 r.kind) (.int .i64 r.half) (.string r.text) (.slice qr1 r.list.length qr1n) (.slice qr2 r.keys.length qr2n) (.slice qr3 r.vals.length qr3n) (.int .i64 er)
            obtain ⟨s0, s1, s2, s3, s4, s5, s6⟩ := hc2.c
            have sf := hc2.f
            unfold set7 set6 at s0 s1 s2 s3 s4 s5 s6 sf
            clear hc hc2
            go_wp2_with fail
            go_meet
            have hf := St.fin er es HSt.out rfl
            exact ⟨_, _, r, s, qr1, qr1n, qr2, qr2n, qr3, qr3n, qs1, qs1n, qs2, qs2n, qs3, qs3n, er, es, rfl, rfl, hf.1, hf.2.1, hf.2.2.1, hf.2.2.2.1, hf.2.2.2.2, HRr.out, HRs.out⟩
          refine AllReadyS.cons ⟨some 10, .alloc 35, 0, _, _, none⟩ rfl (fun K hK => ?_) AllReadyS.nil
          go_simp
          replace HSt := Lib.hid (HSt.out.alloc10)
          refine hK _ _ trivial (fun _ _ => CXK.out _ HSt.out.1) ?_
          clear hK K
          try simp only [Act.put, List.setIfInBounds_toArray, List.set_cons_zero, List.set_cons_succ]
          have hgen : v37.alloc RZ = v37.alloc (.cells #[.int .i64 0, .int .i64 0, .string ⟨#[]⟩, .slice none 0 0, .slice none 0 0, .slice none 0 0, .int .i64 0] 35) := rfl
          rw [hgen] at HSt
          clear hgen
          generalize hgn : v37.alloc (.cells #[.int .i64 0, .int .i64 0, .string ⟨#[]⟩, .slice none 0 0, .slice none 0 0, .slice none 0 0, .int .i64 0] 35) = v47 at HSt ⊢
          clear hgn
          refine wpAnyS_ready [4] (by kernel_rfl) (by simp) ?_
          refine AllReadyS.cons ⟨some 46, .call { callee := .value (.func 30), args := #[.tmp 42, .tmp 44, .tmp 45], argTypes := #[26, 26, 26] }, 35, _, _, none⟩ rfl (fun K hK => ?_) AllReadyS.nil
          go_simp
          go_at_call 30
          refine (HSPA.out _ HSt.out.1).mono ?_
          rintro e v48 ⟨g0, g1, g2, g3, g4, g5, er, r, rfl, hx, hj, hres⟩
          obtain ⟨qr1, qr1n, qr2, qr2n, qr3, qr3n, rfl, rfl, rfl, rfl, rfl, rfl⟩ := hj.cells6
          replace HSt := Lib.hid (HSt.out.call1 hx hj)
          have HRr := Lib.hid hres
          clear hx hj hres
          try go_simp
          refine hK _ _ trivial (fun _ _ => CXK.out _ HSt.out.1) ?_
          clear hK K
          try simp only [Act.put, List.setIfInBounds_toArray, List.set_cons_zero, List.set_cons_succ]
          refine wpAnyS_ready [7] (by kernel_rfl) (by simp) ?_
          refine AllReadyS.cons ⟨some 49, .call { callee := .value (.func 12), args := #[.tmp 48], argTypes := #[23] }, 26, _, _, none⟩ rfl (fun K hK => ?_) AllReadyS.nil
          go_simp
          go_at_call 12
          refine (HARR.out _).mono ?_
          rintro e v49 ⟨rfl, hx⟩
          replace HSt := Lib.hid (HSt.out.step hx)
          clear hx
          try go_simp
          refine hK _ _ trivial (fun _ _ => CXK.out _ HSt.out.1) ?_
          clear hK K
          try simp only [Act.put, List.setIfInBounds_toArray, List.set_cons_zero, List.set_cons_succ]
          refine wpAnyS_ready [9] (by kernel_rfl) (by simp) ?_
          refine AllReadyS.cons ⟨some 51, .call { callee := .value (.func 30), args := #[.tmp 47, .tmp 49, .tmp 50], argTypes := #[26, 26, 26] }, 35, _, _, none⟩ rfl (fun K hK => ?_) AllReadyS.nil
          go_simp
          go_at_call 30
          refine (HSPB.out _ HSt.out.1).mono ?_
          rintro e v50 ⟨g0, g1, g2, g3, g4, g5, es, s, rfl, hx, hj, hres⟩
          obtain ⟨qs1, qs1n, qs2, qs2n, qs3, qs3n, rfl, rfl, rfl, rfl, rfl, rfl⟩ := hj.cells6
          replace HSt := Lib.hid (HSt.out.call2 hx hj)
          have HRs := Lib.hid hres
          clear hx hj hres
          try go_simp
          refine hK _ _ trivial (fun _ _ => CXK.out _ HSt.out.1) ?_
          clear hK K
          try simp only [Act.put, List.setIfInBounds_toArray, List.set_cons_zero, List.set_cons_succ]
          refine wpAnyS_rest 12 (fun _ => trivial) rfl (by kernel_rfl) (by kernel_rfl) ?_
          simp only [List.drop_succ_cons, List.drop_zero]
          have hc := HSt.out.cells
          obtain ⟨r0, r1, r2, r3, r4, r5, r6⟩ := hc.1.c
          have rf := hc.1.f
          have hc2 := hc.2 (.int .i64 r.kind) (.int .i64 r.half) (.string r.text) (.slice qr1 r.list.length qr1n) (.slice qr2 r.keys.length qr2n) (.slice qr3 r.vals.length qr3n) (.int .i64 er)
          obtain ⟨s0, s1, s2, s3, s4, s5, s6⟩ := hc2.c
          have sf := hc2.f
          unfold set7 set6 at s0 s1 s2 s3 s4 s5 s6 sf
          clear hc hc2
          go_wp2_with fail
          go_meet
          have hf := St.fin er es HSt.out rfl
          exact ⟨_, _, r, s, qr1, qr1n, qr2, qr2n, qr3, qr3n, qs1, qs1n, qs2, qs2n, qs3, qs3n, er, es, rfl, rfl, hf.1, hf.2.1, hf.2.2.1, hf.2.2.2.1, hf.2.2.2.2, HRr.out, HRs.out⟩
        refine AllReadyS.cons ⟨some 10, .alloc 35, 0, _, _, none⟩ rfl (fun K hK => ?_) AllReadyS.nil
        go_simp
        replace HSt := Lib.hid (HSt.out.alloc10)
        refine hK _ _ trivial (fun _ _ => CXK.out _ HSt.out.1) ?_
        clear hK K
        try simp only [Act.put, List.setIfInBounds_toArray, List.set_cons_zero, List.set_cons_succ]
        have hgen : v1.alloc RZ = v1.alloc (.cells #[.int .i64 0, .int .i64 0, .string ⟨#[]⟩, .slice none 0 0, .slice none 0 0, .slice none 0 0, .int .i64 0] 35) := rfl
        rw [hgen] at HSt
        clear hgen
        generalize hgn : v1.alloc (.cells #[.int .i64 0, .int .i64 0, .string ⟨#[]⟩, .slice none 0 0, .slice none 0 0, .slice none 0 0, .int .i64 0] 35) = v51 at HSt ⊢
        clear hgn
        refine wpAnyS_ready [4, 10] (by kernel_rfl) (by simp) ?_
        refine AllReadyS.cons ⟨some 46, .call { callee := .value (.func 30), args := #[.tmp 42, .tmp 44, .tmp 45], argTypes := #[26, 26, 26] }, 35, _, _, none⟩ rfl (fun K hK => ?_) ?_
        focus
          go_simp
          go_at_call 30
          refine (HSPA.out _ HSt.out.1).mono ?_
          rintro e v52 ⟨g0, g1, g2, g3, g4, g5, er, r, rfl, hx, hj, hres⟩
          obtain ⟨qr1, qr1n, qr2, qr2n, qr3, qr3n, rfl, rfl, rfl, rfl, rfl, rfl⟩ := hj.cells6
          replace HSt := Lib.hid (HSt.out.call1 hx hj)
          have HRr := Lib.hid hres
          clear hx hj hres
          try go_simp
          refine hK _ _ trivial (fun _ _ => CXK.out _ HSt.out.1) ?_
          clear hK K
          try simp only [Act.put, List.setIfInBounds_toArray, List.set_cons_zero, List.set_cons_succ]
          refine wpAnyS_ready [7, 10] (by kernel_rfl) (by simp) ?_
          refine AllReadyS.cons ⟨some 49, .call { callee := .value (.func 12), args := #[.tmp 48], argTypes := #[23] }, 26, _, _, none⟩ rfl (fun K hK => ?_) ?_
          focus
            go_simp
            go_at_call 12
            refine (HARR.out _).mono ?_
            rintro e v53 ⟨rfl, hx⟩
            replace HSt := Lib.hid (HSt.out.step hx)
            clear hx
            try go_simp
            refine hK _ _ trivial (fun _ _ => CXK.out _ HSt.out.1) ?_
            clear hK K
            try simp only [Act.put, List.setIfInBounds_toArray, List.set_cons_zero, List.set_cons_succ]
            refine wpAnyS_ready [9, 10] (by kernel_rfl) (by simp) ?_
            refine AllReadyS.cons ⟨some 51, .call { callee := .value (.func 30), args := #[.tmp 47, .tmp 49, .tmp 50], argTypes := #[26, 26, 26] }, 35, _, _, none⟩ rfl (fun K hK => ?_) ?_
            focus
              go_simp
              go_at_call 30
              refine (HSPB.out _ HSt.out.1).mono ?_
              rintro e v54 ⟨g0, g1, g2, g3, g4, g5, es, s, rfl, hx, hj, hres⟩
              obtain ⟨qs1, qs1n, qs2, qs2n, qs3, qs3n, rfl, rfl, rfl, rfl, rfl, rfl⟩ := hj.cells6
              replace HSt := Lib.hid (HSt.out.call2 hx hj)
              have HRs := Lib.hid hres
              clear hx hj hres
              try go_simp
              refine hK _ _ trivial (fun _ _ => CXK.out _ HSt.out.1) ?_
              clear hK K
              try simp only [Act.put, List.setIfInBounds_toArray, List.set_cons_zero, List.set_cons_succ]
              refine wpAnyS_ready [10] (by kernel_rfl) (by simp) ?_
              refine AllReadyS.cons ⟨some 9, .alloc 35, 0, _, _, none⟩ rfl (fun K hK => ?_) AllReadyS.nil
              go_simp
              replace HSt := Lib.hid (HSt.out.alloc9)
              refine hK _ _ trivial (fun _ _ => CXK.out _ HSt.out.1) ?_
              clear hK K
              try simp only [Act.put, List.setIfInBounds_toArray, List.set_cons_zero, List.set_cons_succ]
              have hgen : v54.alloc RZ = v54.alloc (.cells #[.int .i64 0, .int .i64 0, .string ⟨#[]⟩, .slice none 0 0, .slice none 0 0, .slice none 0 0, .int .i64 0] 35) := rfl
              rw [hgen] at HSt
              clear hgen
              generalize hgn : v54.alloc (.cells #[.int .i64 0, .int .i64 0, .string ⟨#[]⟩, .slice none 0 0, .slice none 0 0, .slice none 0 0, .int .i64 0] 35) = v55 at HSt ⊢
              clear hgn
              refine wpAnyS_rest 12 (fun _ => trivial) rfl (by kernel_rfl) (by kernel_rfl) ?_
              simp only [List.drop_succ_cons, List.drop_zero]
              have hc := HSt.out.cells
              obtain ⟨r0, r1, r2, r3, r4, r5, r6⟩ := hc.1.c
              have rf := hc.1.f
              have hc2 := hc.2 (.int .i64 r.kind) (.int .i64 r.half) (.string r.text) (.slice qr1 r.list.length qr1n) (.slice qr2 r.keys.length qr2n) (.slice qr3 r.vals.length qr3n) (.int .i64 er)
              obtain ⟨s0, s1, s2, s3, s4, s5, s6⟩ := hc2.c
              have sf := hc2.f
              unfold set7 set6 at s0 s1 s2 s3 s4 s5 s6 sf
              clear hc hc2
              go_wp2_with fail
              go_meet
              have hf := St.fin er es HSt.out rfl
              exact ⟨_, _, r, s, qr1, qr1n, qr2, qr2n, qr3, qr3n, qs1, qs1n, qs2, qs2n, qs3, qs3n, er, es, rfl, rfl, hf.1, hf.2.1, hf.2.2.1, hf.2.2.2.1, hf.2.2.2.2, HRr.out, HRs.out⟩
            refine AllReadyS.cons ⟨some 9, .alloc 35, 0, _, _, none⟩ rfl (fun K hK => ?_) AllReadyS.nil
            go_simp
            replace HSt := Lib.hid (HSt.out.alloc9)
            refine hK _ _ trivial (fun _ _ => CXK.out _ HSt.out.1) ?_
            clear hK K
            try simp only [Act.put, List.setIfInBounds_toArray, List.set_cons_zero, List.set_cons_succ]
            have hgen : v53.alloc RZ = v53.alloc (.cells #[.int .i64 0, .int .i64 0, .string ⟨#[]⟩, .slice none 0 0, .slice none 0 0, .slice none 0 0, .int .i64 0] 35) := rfl
            rw [hgen] at HSt
            clear hgen
            generalize hgn : v53.alloc (.cells #[.int .i64 0, .int .i64 0, .string ⟨#[]⟩, .slice none 0 0, .slice none 0 0, .slice none 0 0, .int .i64 0] 35) = v56 at HSt ⊢
            clear hgn
            refine wpAnyS_ready [9] (by kernel_rfl) (by simp) ?_
            refine AllReadyS.cons ⟨some 51, .call { callee := .value (.func 30), args := #[.tmp 47, .tmp 49, .tmp 50], argTypes := #[26, 26, 26] }, 35, _, _, none⟩ rfl (fun K hK => ?_) AllReadyS.nil
            go_simp
            go_at_call 30
            refine (HSPB.out _ HSt.out.1).mono ?_
            rintro e v57 ⟨g0, g1, g2, g3, g4, g5, es, s, rfl, hx, hj, hres⟩
            obtain ⟨qs1, qs1n, qs2, qs2n, qs3, qs3n, rfl, rfl, rfl, rfl, rfl, rfl⟩ := hj.cells6
            replace HSt := Lib.hid (HSt.out.call2 hx hj)
            have HRs := Lib.hid hres
            clear hx hj hres
            try go_simp
            refine hK _ _ trivial (fun _ _ => CXK.out _ HSt.out.1) ?_
            clear hK K
            try simp only [Act.put, List.setIfInBounds_toArray, List.set_cons_zero, List.set_cons_succ]
            refine wpAnyS_rest 12 (fun _ => trivial) rfl (by kernel_rfl) (by kernel_rfl) ?_
            simp only [List.drop_succ_cons, List.drop_zero]
            have hc := HSt.out.cells
            obtain ⟨r0, r1, r2, r3, r4, r5, r6⟩ := hc.1.c
            have rf := hc.1.f
            have hc2 := hc.2 (.int .i64 r.kind) (.int .i64 r.half) (.string r.text) (.slice qr1 r.list.length qr1n) (.slice qr2 r.keys.length qr2n) (.slice qr3 r.vals.length qr3n) (.int .i64 er)
            obtain ⟨s0, s1, s2, s3, s4, s5, s6⟩ := hc2.c
            have sf := hc2.f
            unfold set7 set6 at s0 s1 s2 s3 s4 s5 s6 sf
            clear hc hc2
            go_wp2_with fail
            go_meet
            have hf := St.fin er es HSt.out rfl
            exact ⟨_, _, r, s, qr1, qr1n, qr2, qr2n, qr3, qr3n, qs1, qs1n, qs2, qs2n, qs3, qs3n, er, es, rfl, rfl, hf.1, hf.2.1, hf.2.2.1, hf.2.2.2.1, hf.2.2.2.2, HRr.out, HRs.out⟩
          refine AllReadyS.cons ⟨some 9, .alloc 35, 0, _, _, none⟩ rfl (fun K hK => ?_) AllReadyS.nil
          go_simp
          replace HSt := Lib.hid (HSt.out.alloc9)
          refine hK _ _ trivial (fun _ _ => CXK.out _ HSt.out.1) ?_
          clear hK K
          try simp only [Act.put, List.setIfInBounds_toArray, List.set_cons_zero, List.set_cons_succ]
          have hgen : v52.alloc RZ = v52.alloc (.cells #[.int .i64 0, .int .i64 0, .string ⟨#[]⟩, .slice none 0 0, .slice none 0 0, .slice none 0 0, .int .i64 0] 35) := rfl
          rw [hgen] at HSt
          clear hgen
          generalize hgn : v52.alloc (.cells #[.int .i64 0, .int .i64 0, .string ⟨#[]⟩, .slice none 0 0, .slice none 0 0, .slice none 0 0, .int .i64 0] 35) = v58 at HSt ⊢
          clear hgn
          refine wpAnyS_ready [7] (by kernel_rfl) (by simp) ?_
          refine AllReadyS.cons ⟨some 49, .call { callee := .value (.func 12), args := #[.tmp 48], argTypes := #[23] }, 26, _, _, none⟩ rfl (fun K hK => ?_) AllReadyS.nil
          go_simp
          go_at_call 12
          refine (HARR.out _).mono ?_
          rintro e v59 ⟨rfl, hx⟩
          replace HSt := Lib.hid (HSt.out.step hx)
          clear hx
          try go_simp
          refine hK _ _ trivial (fun _ _ => CXK.out _ HSt.out.1) ?_
          clear hK K
          try simp only [Act.put, List.setIfInBounds_toArray, List.set_cons_zero, List.set_cons_succ]
          refine wpAnyS_ready [9] (by kernel_rfl) (by simp) ?_
          refine AllReadyS.cons ⟨some 51, .call { callee := .value (.func 30), args := #[.tmp 47, .tmp 49, .tmp 50], argTypes := #[26, 26, 26] }, 35, _, _, none⟩ rfl (fun K hK => ?_) AllReadyS.nil
          go_simp
          go_at_call 30
          refine (HSPB.out _ HSt.out.1).mono ?_
          rintro e v60 ⟨g0, g1, g2, g3, g4, g5, es, s, rfl, hx, hj, hres⟩
          obtain ⟨qs1, qs1n, qs2, qs2n, qs3, qs3n, rfl, rfl, rfl, rfl, rfl, rfl⟩ := hj.cells6
          replace HSt := Lib.hid (HSt.out.call2 hx hj)
          have HRs := Lib.hid hres
          clear hx hj hres
          try go_simp
          refine hK _ _ trivial (fun _ _ => CXK.out _ HSt.out.1) ?_
          clear hK K
          try simp only [Act.put, List.setIfInBounds_toArray, List.set_cons_zero, List.set_cons_succ]
          refine wpAnyS_rest 12 (fun _ => trivial) rfl (by kernel_rfl) (by kernel_rfl) ?_
          simp only [List.drop_succ_cons, List.drop_zero]
          have hc := HSt.out.cells
          obtain ⟨r0, r1, r2, r3, r4, r5, r6⟩ := hc.1.c
          have rf := hc.1.f
          have hc2 := hc.2 (.int .i64 r.kind) (.int .i64 r.half) (.string r.text) (.slice qr1 r.list.length qr1n) (.slice qr2 r.keys.length qr2n) (.slice qr3 r.vals.length qr3n) (.int .i64 er)
          obtain ⟨s0, s1, s2, s3, s4, s5, s6⟩ := hc2.c
          have sf := hc2.f
          unfold set7 set6 at s0 s1 s2 s3 s4 s5 s6 sf
          clear hc hc2
          go_wp2_with fail
          go_meet
          have hf := St.fin er es HSt.out rfl
          exact ⟨_, _, r, s, qr1, qr1n, qr2, qr2n, qr3, qr3n, qs1, qs1n, qs2, qs2n, qs3, qs3n, er, es, rfl, rfl, hf.1, hf.2.1, hf.2.2.1, hf.2.2.2.1, hf.2.2.2.2, HRr.out, HRs.out⟩
        refine AllReadyS.cons ⟨some 9, .alloc 35, 0, _, _, none⟩ rfl (fun K hK => ?_) AllReadyS.nil
        go_simp
        replace HSt := Lib.hid (HSt.out.alloc9)
        refine hK _ _ trivial (fun _ _ => CXK.out _ HSt.out.1) ?_
        clear hK K
        try simp only [Act.put, List.setIfInBounds_toArray, List.set_cons_zero, List.set_cons_succ]
        have hgen : v51.alloc RZ = v51.alloc (.cells #[.int .i64 0, .int .i64 0, .string ⟨#[]⟩, .slice none 0 0, .slice none 0 0, .slice none 0 0, .int .i64 0] 35) := rfl
        rw [hgen] at HSt
        clear hgen
        generalize hgn : v51.alloc (.cells #[.int .i64 0, .int .i64 0, .string ⟨#[]⟩, .slice none 0 0, .slice none 0 0, .slice none 0 0, .int .i64 0] 35) = v61 at HSt ⊢
        clear hgn
        refine wpAnyS_ready [4] (by kernel_rfl) (by simp) ?_
        refine AllReadyS.cons ⟨some 46, .call { callee := .value (.func 30), args := #[.tmp 42, .tmp 44, .tmp 45], argTypes := #[26, 26, 26] }, 35, _, _, none⟩ rfl (fun K hK => ?_) AllReadyS.nil
        go_simp
        go_at_call 30
        refine (HSPA.out _ HSt.out.1).mono ?_
        rintro e v62 ⟨g0, g1, g2, g3, g4, g5, er, r, rfl, hx, hj, hres⟩
        obtain ⟨qr1, qr1n, qr2, qr2n, qr3, qr3n, rfl, rfl, rfl, rfl, rfl, rfl⟩ := hj.cells6
        replace HSt := Lib.hid (HSt.out.call1 hx hj)
        have HRr := Lib.hid hres
        clear hx hj hres
        try go_simp
        refine hK _ _ trivial (fun _ _ => CXK.out _ HSt.out.1) ?_
        clear hK K
        try simp only [Act.put, List.setIfInBounds_toArray, List.set_cons_zero, List.set_cons_succ]
        refine wpAnyS_ready [7] (by kernel_rfl) (by simp) ?_
        refine AllReadyS.cons ⟨some 49, .call { callee := .value (.func 12), args := #[.tmp 48], argTypes := #[23] }, 26, _, _, none⟩ rfl (fun K hK => ?_) AllReadyS.nil
        go_simp
        go_at_call 12
        refine (HARR.out _).mono ?_
        rintro e v63 ⟨rfl, hx⟩
        replace HSt := Lib.hid (HSt.out.step hx)
        clear hx
        try go_simp
        refine hK _ _ trivial (fun _ _ => CXK.out _ HSt.out.1) ?_
        clear hK K
        try simp only [Act.put, List.setIfInBounds_toArray, List.set_cons_zero, List.set_cons_succ]
        refine wpAnyS_ready [9] (by kernel_rfl) (by simp) ?_
        refine AllReadyS.cons ⟨some 51, .call { callee := .value (.func 30), args := #[.tmp 47, .tmp 49, .tmp 50], argTypes := #[26, 26, 26] }, 35, _, _, none⟩ rfl (fun K hK => ?_) AllReadyS.nil
        go_simp
        go_at_call 30
        refine (HSPB.out _ HSt.out.1).mono ?_
        rintro e v64 ⟨g0, g1, g2, g3, g4, g5, es, s, rfl, hx, hj, hres⟩
        obtain ⟨qs1, qs1n, qs2, qs2n, qs3, qs3n, rfl, rfl, rfl, rfl, rfl, rfl⟩ := hj.cells6
        replace HSt := Lib.hid (HSt.out.call2 hx hj)
        have HRs := Lib.hid hres
        clear hx hj hres
        try go_simp
        refine hK _ _ trivial (fun _ _ => CXK.out _ HSt.out.1) ?_
        clear hK K
        try simp only [Act.put, List.setIfInBounds_toArray, List.set_cons_zero, List.set_cons_succ]
        refine wpAnyS_rest 12 (fun _ => trivial) rfl (by kernel_rfl) (by kernel_rfl) ?_
        simp only [List.drop_succ_cons, List.drop_zero]
        have hc := HSt.out.cells
        obtain ⟨r0, r1, r2, r3, r4, r5, r6⟩ := hc.1.c
        have rf := hc.1.f
        have hc2 := hc.2 (.int .i64 r.kind) (.int .i64 r.half) (.string r.text) (.slice qr1 r.list.length qr1n) (.slice qr2 r.keys.length qr2n) (.slice qr3 r.vals.length qr3n) (.int .i64 er)
        obtain ⟨s0, s1, s2, s3, s4, s5, s6⟩ := hc2.c
        have sf := hc2.f
        unfold set7 set6 at s0 s1 s2 s3 s4 s5 s6 sf
        clear hc hc2
        go_wp2_with fail
        go_meet
        have hf := St.fin er es HSt.out rfl
        exact ⟨_, _, r, s, qr1, qr1n, qr2, qr2n, qr3, qr3n, qs1, qs1n, qs2, qs2n, qs3, qs3n, er, es, rfl, rfl, hf.1, hf.2.1, hf.2.2.1, hf.2.2.2.1, hf.2.2.2.2, HRr.out, HRs.out⟩
      refine AllReadyS.cons ⟨some 9, .alloc 35, 0, _, _, none⟩ rfl (fun K hK => ?_) ?_
      focus
        go_simp
        replace HSt := Lib.hid (HSt.out.alloc9)
        refine hK _ _ trivial (fun _ _ => CXK.out _ HSt.out.1) ?_
        clear hK K
        try simp only [Act.put, List.setIfInBounds_toArray, List.set_cons_zero, List.set_cons_succ]
        have hgen : v0.alloc RZ = v0.alloc (.cells #[.int .i64 0, .int .i64 0, .string ⟨#[]⟩, .slice none 0 0, .slice none 0 0, .slice none 0 0, .int .i64 0] 35) := rfl
        rw [hgen] at HSt
        clear hgen
        generalize hgn : v0.alloc (.cells #[.int .i64 0, .int .i64 0, .string ⟨#[]⟩, .slice none 0 0, .slice none 0 0, .slice none 0 0, .int .i64 0] 35) = v65 at HSt ⊢
        clear hgn
        refine wpAnyS_ready [2, 11] (by kernel_rfl) (by simp) ?_
        refine AllReadyS.cons ⟨some 44, .call { callee := .value (.func 12), args := #[.tmp 43], argTypes := #[23] }, 26, _, _, none⟩ rfl (fun K hK => ?_) ?_
        focus
          go_simp
          go_at_call 12
          refine (HARR.out _).mono ?_
          rintro e v66 ⟨rfl, hx⟩
          replace HSt := Lib.hid (HSt.out.step hx)
          clear hx
          try go_simp
          refine hK _ _ trivial (fun _ _ => CXK.out _ HSt.out.1) ?_
          clear hK K
          try simp only [Act.put, List.setIfInBounds_toArray, List.set_cons_zero, List.set_cons_succ]
          refine wpAnyS_ready [4, 11] (by kernel_rfl) (by simp) ?_
          refine AllReadyS.cons ⟨some 46, .call { callee := .value (.func 30), args := #[.tmp 42, .tmp 44, .tmp 45], argTypes := #[26, 26, 26] }, 35, _, _, none⟩ rfl (fun K hK => ?_) ?_
          focus
            go_simp
            go_at_call 30
            refine (HSPA.out _ HSt.out.1).mono ?_
            rintro e v67 ⟨g0, g1, g2, g3, g4, g5, er, r, rfl, hx, hj, hres⟩
            obtain ⟨qr1, qr1n, qr2, qr2n, qr3, qr3n, rfl, rfl, rfl, rfl, rfl, rfl⟩ := hj.cells6
            replace HSt := Lib.hid (HSt.out.call1 hx hj)
            have HRr := Lib.hid hres
            clear hx hj hres
            try go_simp
            refine hK _ _ trivial (fun _ _ => CXK.out _ HSt.out.1) ?_
            clear hK K
            try simp only [Act.put, List.setIfInBounds_toArray, List.set_cons_zero, List.set_cons_succ]
            refine wpAnyS_ready [7, 11] (by kernel_rfl) (by simp) ?_
            refine AllReadyS.cons ⟨some 49, .call { callee := .value (.func 12), args := #[.tmp 48], argTypes := #[23] }, 26, _, _, none⟩ rfl (fun K hK => ?_) ?_
            focus
              go_simp
              go_at_call 12
              refine (HARR.out _).mono ?_
              rintro e v68 ⟨rfl, hx⟩
              replace HSt := Lib.hid (HSt.out.step hx)
              clear hx
              try go_simp
              refine hK _ _ trivial (fun _ _ => CXK.out _ HSt.out.1) ?_
              clear hK K
              try simp only [Act.put, List.setIfInBounds_toArray, List.set_cons_zero, List.set_cons_succ]
              refine wpAnyS_ready [9, 11] (by kernel_rfl) (by simp) ?_
              refine AllReadyS.cons ⟨some 51, .call { callee := .value (.func 30), args := #[.tmp 47, .tmp 49, .tmp 50], argTypes := #[26, 26, 26] }, 35, _, _, none⟩ rfl (fun K hK => ?_) ?_
              focus
                go_simp
                go_at_call 30
                refine (HSPB.out _ HSt.out.1).mono ?_
                rintro e v69 ⟨g0, g1, g2, g3, g4, g5, es, s, rfl, hx, hj, hres⟩
                obtain ⟨qs1, qs1n, qs2, qs2n, qs3, qs3n, rfl, rfl, rfl, rfl, rfl, rfl⟩ := hj.cells6
                replace HSt := Lib.hid (HSt.out.call2 hx hj)
                have HRs := Lib.hid hres
                clear hx hj hres
                try go_simp
                refine hK _ _ trivial (fun _ _ => CXK.out _ HSt.out.1) ?_
                clear hK K
                try simp only [Act.put, List.setIfInBounds_toArray, List.set_cons_zero, List.set_cons_succ]
                refine wpAnyS_ready [11] (by kernel_rfl) (by simp) ?_
                refine AllReadyS.cons ⟨some 10, .alloc 35, 0, _, _, none⟩ rfl (fun K hK => ?_) AllReadyS.nil
                go_simp
                replace HSt := Lib.hid (HSt.out.alloc10)
                refine hK _ _ trivial (fun _ _ => CXK.out _ HSt.out.1) ?_
                clear hK K
                try simp only [Act.put, List.setIfInBounds_toArray, List.set_cons_zero, List.set_cons_succ]
                have hgen : v69.alloc RZ = v69.alloc (.cells #[.int .i64 0, .int .i64 0, .string ⟨#[]⟩, .slice none 0 0, .slice none 0 0, .slice none 0 0, .int .i64 0] 35) := rfl
                rw [hgen] at HSt
                clear hgen
                generalize hgn : v69.alloc (.cells #[.int .i64 0, .int .i64 0, .string ⟨#[]⟩, .slice none 0 0, .slice none 0 0, .slice none 0 0, .int .i64 0] 35) = v70 at HSt ⊢
                clear hgn
                refine wpAnyS_rest 12 (fun _ => trivial) rfl (by kernel_rfl) (by kernel_rfl) ?_
                simp only [List.drop_succ_cons, List.drop_zero]
                have hc := HSt.out.cells
                obtain ⟨r0, r1, r2, r3, r4, r5, r6⟩ := hc.1.c
                have rf := hc.1.f
                have hc2 := hc.2 (.int .i64 r.kind) (.int .i64 r.half) (.string r.text) (.slice qr1 r.list.length qr1n) (.slice qr2 r.keys.length qr2n) (.slice qr3 r.vals.length qr3n) (.int .i64 er)
                obtain ⟨s0, s1, s2, s3, s4, s5, s6⟩ := hc2.c
                have sf := hc2.f
                unfold set7 set6 at s0 s1 s2 s3 s4 s5 s6 sf
                clear hc hc2
                go_wp2_with fail
                go_meet
                have hf := St.fin er es HSt.out rfl
                exact ⟨_, _, r, s, qr1, qr1n, qr2, qr2n, qr3, qr3n, qs1, qs1n, qs2, qs2n, qs3, qs3n, er, es, rfl, rfl, hf.1, hf.2.1, hf.2.2.1, hf.2.2.2.1, hf.2.2.2.2, HRr.out, HRs.out⟩
              refine AllReadyS.cons ⟨some 10, .alloc 35, 0, _, _, none⟩ rfl (fun K hK => ?_) AllReadyS.nil
              go_simp
              replace HSt := Lib.hid (HSt.out.alloc10)
              refine hK _ _ trivial (fun _ _ => CXK.out _ HSt.out.1) ?_
              clear hK K
              try simp only [Act.put, List.setIfInBounds_toArray, List.set_cons_zero, List.set_cons_succ]
              have hgen : v68.alloc RZ = v68.alloc (.cells #[.int .i64 0, .int .i64 0, .string ⟨#[]⟩, .slice none 0 0, .slice none 0 0, .slice none 0 0, .int .i64 0] 35) := rfl
              rw [hgen] at HSt
              clear hgen
              generalize hgn : v68.alloc (.cells #[.int .i64 0, .int .i64 0, .string ⟨#[]⟩, .slice none 0 0, .slice none 0 0, .slice none 0 0, .int .i64 0] 35) = v71 at HSt ⊢
              clear hgn
              refine wpAnyS_ready [9] (by kernel_rfl) (by simp) ?_
              refine AllReadyS.cons ⟨some 51, .call { callee := .value (.func 30), args := #[.tmp 47, .tmp 49, .tmp 50], argTypes := #[26, 26, 26] }, 35, _, _, none⟩ rfl (fun K hK => ?_) AllReadyS.nil
              go_simp
              go_at_call 30
              refine (HSPB.out _ HSt.out.1).mono ?_
              rintro e v72 ⟨g0, g1, g2, g3, g4, g5, es, s, rfl, hx, hj, hres⟩
              obtain ⟨qs1, qs1n, qs2, qs2n, qs3, qs3n, rfl, rfl, rfl, rfl, rfl, rfl⟩ := hj.cells6
              replace HSt := Lib.hid (HSt.out.call2 hx hj)
              have HRs := Lib.hid hres
              clear hx hj hres
              try go_simp
              refine hK _ _ trivial (fun _ _ => CXK.out _ HSt.out.1) ?_
              clear hK K
              try simp only [Act.put, List.setIfInBounds_toArray, List.set_cons_zero, List.set_cons_succ]
              refine wpAnyS_rest 12 (fun _ => trivial) rfl (by kernel_rfl) (by kernel_rfl) ?_
              simp only [List.drop_succ_cons, List.drop_zero]
              have hc := HSt.out.cells
              obtain ⟨r0, r1, r2, r3, r4, r5, r6⟩ := hc.1.c
              have rf := hc.1.f
              have hc2 := hc.2 (.int .i64 r.kind) (.int .i64 r.half) (.string r.text) (.slice qr1 r.list.length qr1n) (.slice qr2 r.keys.length qr2n) (.slice qr3 r.vals.length qr3n) (.int .i64 er)
              obtain ⟨s0, s1, s2, s3, s4, s5, s6⟩ := hc2.c
              have sf := hc2.f
              unfold set7 set6 at s0 s1 s2 s3 s4 s5 s6 sf
              clear hc hc2
              go_wp2_with fail
              go_meet
              have hf := St.fin er es HSt.out rfl
              exact ⟨_, _, r, s, qr1, qr1n, qr2, qr2n, qr3, qr3n, qs1, qs1n, qs2, qs2n, qs3, qs3n, er, es, rfl, rfl, hf.1, hf.2.1, hf.2.2.1, hf.2.2.2.1, hf.2.2.2.2, HRr.out, HRs.out⟩
            refine AllReadyS.cons ⟨some 10, .alloc 35, 0, _, _, none⟩ rfl (fun K hK => ?_) AllReadyS.nil
            go_simp
            replace HSt := Lib.hid (HSt.out.alloc10)
            refine hK _ _ trivial (fun _ _ => CXK.out _ HSt.out.1) ?_
            clear hK K
            try simp only [Act.put, List.setIfInBounds_toArray, List.set_cons_zero, List.set_cons_succ]
            have hgen : v67.alloc RZ = v67.alloc (.cells #[.int .i64 0, .int .i64 0, .string ⟨#[]⟩, .slice none 0 0, .slice none 0 0, .slice none 0 0, .int .i64 0] 35) := rfl
            rw [hgen] at HSt
            clear hgen
            generalize hgn : v67.alloc (.cells #[.int .i64 0, .int .i64 0, .string ⟨#[]⟩, .slice none 0 0, .slice none 0 0, .slice none 0 0, .int .i64 0] 35) = v73 at HSt ⊢
            clear hgn
            refine wpAnyS_ready [7] (by kernel_rfl) (by simp) ?_
            refine AllReadyS.cons ⟨some 49, .call { callee := .value (.func 12), args := #[.tmp 48], argTypes := #[23] }, 26, _, _, none⟩ rfl (fun K hK => ?_) AllReadyS.nil
            go_simp
            go_at_call 12
            refine (HARR.out _).mono ?_
            rintro e v74 ⟨rfl, hx⟩
            replace HSt := Lib.hid (HSt.out.step hx)
            clear hx
            try go_simp
            refine hK _ _ trivial (fun _ _ => CXK.out _ HSt.out.1) ?_
            clear hK K
            try simp only [Act.put, List.setIfInBounds_toArray, List.set_cons_zero, List.set_cons_succ]
            refine wpAnyS_ready [9] (by kernel_rfl) (by simp) ?_
            refine AllReadyS.cons ⟨some 51, .call { callee := .value (.func 30), args := #[.tmp 47, .tmp 49, .tmp 50], argTypes := #[26, 26, 26] }, 35, _, _, none⟩ rfl (fun K hK => ?_) AllReadyS.nil
            go_simp
            go_at_call 30
            refine (HSPB.out _ HSt.out.1).mono ?_
            rintro e v75 ⟨g0, g1, g2, g3, g4, g5, es, s, rfl, hx, hj, hres⟩
            obtain ⟨qs1, qs1n, qs2, qs2n, qs3, qs3n, rfl, rfl, rfl, rfl, rfl, rfl⟩ := hj.cells6
            replace HSt := Lib.hid (HSt.out.call2 hx hj)
            have HRs := Lib.hid hres
            clear hx hj hres
            try go_simp
            refine hK _ _ trivial (fun _ _ => CXK.out _ HSt.out.1) ?_
            clear hK K
            try simp only [Act.put, List.setIfInBounds_toArray, List.set_cons_zero, List.set_cons_succ]
            refine wpAnyS_rest 12 (fun _ => trivial) rfl (by kernel_rfl) (by kernel_rfl) ?_
            simp only [List.drop_succ_cons, List.drop_zero]
            have hc := HSt.out.cells
            obtain ⟨r0, r1, r2, r3, r4, r5, r6⟩ := hc.1.c
            have rf := hc.1.f
            have hc2 := hc.2 (.int .i64 r.kind) (.int .i64 r.half) (.string r.text) (.slice qr1 r.list.length qr1n) (.slice qr2 r.keys.length qr2n) (.slice qr3 r.vals.length qr3n) (.int .i64 er)
            obtain ⟨s0, s1, s2, s3, s4, s5, s6⟩ := hc2.c
            have sf := hc2.f
            unfold set7 set6 at s0 s1 s2 s3 s4 s5 s6 sf
            clear hc hc2
            go_wp2_with fail
            go_meet
            have hf := St.fin er es HSt.out rfl
            exact ⟨_, _, r, s, qr1, qr1n, qr2, qr2n, qr3, qr3n, qs1, qs1n, qs2, qs2n, qs3, qs3n, er, es, rfl, rfl, hf.1, hf.2.1, hf.2.2.1, hf.2.2.2.1, hf.2.2.2.2, HRr.out, HRs.out⟩
          refine AllReadyS.cons ⟨some 10, .alloc 35, 0, _, _, none⟩ rfl (fun K hK => ?_) AllReadyS.nil
          go_simp
          replace HSt := Lib.hid (HSt.out.alloc10)
          refine hK _ _ trivial (fun _ _ => CXK.out _ HSt.out.1) ?_
          clear hK K
          try simp only [Act.put, List.setIfInBounds_toArray, List.set_cons_zero, List.set_cons_succ]
          have hgen : v66.alloc RZ = v66.alloc (.cells #[.int .i64 0, .int .i64 0, .string ⟨#[]⟩, .slice none 0 0, .slice none 0 0, .slice none 0 0, .int .i64 0] 35) := rfl
          rw [hgen] at HSt
          clear hgen
          generalize hgn : v66.alloc (.cells #[.int .i64 0, .int .i64 0, .string ⟨#[]⟩, .slice none 0 0, .slice none 0 0, .slice none 0 0, .int .i64 0] 35) = v76 at HSt ⊢
          clear hgn
          refine wpAnyS_ready [4] (by kernel_rfl) (by simp) ?_
          refine AllReadyS.cons ⟨some 46, .call { callee := .value (.func 30), args := #[.tmp 42, .tmp 44, .tmp 45], argTypes := #[26, 26, 26] }, 35, _, _, none⟩ rfl (fun K hK => ?_) AllReadyS.nil
          go_simp
          go_at_call 30
          refine (HSPA.out _ HSt.out.1).mono ?_
          rintro e v77 ⟨g0, g1, g2, g3, g4, g5, er, r, rfl, hx, hj, hres⟩
          obtain ⟨qr1, qr1n, qr2, qr2n, qr3, qr3n, rfl, rfl, rfl, rfl, rfl, rfl⟩ := hj.cells6
          replace HSt := Lib.hid (HSt.out.call1 hx hj)
          have HRr := Lib.hid hres
          clear hx hj hres
          try go_simp
          refine hK _ _ trivial (fun _ _ => CXK.out _ HSt.out.1) ?_
          clear hK K
          try simp only [Act.put, List.setIfInBounds_toArray, List.set_cons_zero, List.set_cons_succ]
          refine wpAnyS_ready [7] (by kernel_rfl) (by simp) ?_
          refine AllReadyS.cons ⟨some 49, .call { callee := .value (.func 12), args := #[.tmp 48], argTypes := #[23] }, 26, _, _, none⟩ rfl (fun K hK => ?_) AllReadyS.nil
          go_simp
          go_at_call 12
          refine (HARR.out _).mono ?_
          rintro e v78 ⟨rfl, hx⟩
          replace HSt := Lib.hid (HSt.out.step hx)
          clear hx
          try go_simp
          refine hK _ _ trivial (fun _ _ => CXK.out _ HSt.out.1) ?_
          clear hK K
          try simp only [Act.put, List.setIfInBounds_toArray, List.set_cons_zero, List.set_cons_succ]
          refine wpAnyS_ready [9] (by kernel_rfl) (by simp) ?_
          refine AllReadyS.cons ⟨some 51, .call { callee := .value (.func 30), args := #[.tmp 47, .tmp 49, .tmp 50], argTypes := #[26, 26, 26] }, 35, _, _, none⟩ rfl (fun K hK => ?_) AllReadyS.nil
          go_simp
          go_at_call 30
          refine (HSPB.out _ HSt.out.1).mono ?_
          rintro e v79 ⟨g0, g1, g2, g3, g4, g5, es, s, rfl, hx, hj, hres⟩
          obtain ⟨qs1, qs1n, qs2, qs2n, qs3, qs3n, rfl, rfl, rfl, rfl, rfl, rfl⟩ := hj.cells6
          replace HSt := Lib.hid (HSt.out.call2 hx hj)
          have HRs := Lib.hid hres
          clear hx hj hres
          try go_simp
          refine hK _ _ trivial (fun _ _ => CXK.out _ HSt.out.1) ?_
          clear hK K
          try simp only [Act.put, List.setIfInBounds_toArray, List.set_cons_zero, List.set_cons_succ]
          refine wpAnyS_rest 12 (fun _ => trivial) rfl (by kernel_rfl) (by kernel_rfl) ?_
          simp only [List.drop_succ_cons, List.drop_zero]
          have hc := HSt.out.cells
          obtain ⟨r0, r1, r2, r3, r4, r5, r6⟩ := hc.1.c
          have rf := hc.1.f
          have hc2 := hc.2 (.int .i64 r.kind) (.int .i64 r.half) (.string r.text) (.slice qr1 r.list.length qr1n) (.slice qr2 r.keys.length qr2n) (.slice qr3 r.vals.length qr3n) (.int .i64 er)
          obtain ⟨s0, s1, s2, s3, s4, s5, s6⟩ := hc2.c
          have sf := hc2.f
          unfold set7 set6 at s0 s1 s2 s3 s4 s5 s6 sf
          clear hc hc2
          go_wp2_with fail
          go_meet
          have hf := St.fin er es HSt.out rfl
          exact ⟨_, _, r, s, qr1, qr1n, qr2, qr2n, qr3, qr3n, qs1, qs1n, qs2, qs2n, qs3, qs3n, er, es, rfl, rfl, hf.1, hf.2.1, hf.2.2.1, hf.2.2.2.1, hf.2.2.2.2, HRr.out, HRs.out⟩
        refine AllReadyS.cons ⟨some 10, .alloc 35, 0, _, _, none⟩ rfl (fun K hK => ?_) AllReadyS.nil
        go_simp
        replace HSt := Lib.hid (HSt.out.alloc10)
        refine hK _ _ trivial (fun _ _ => CXK.out _ HSt.out.1) ?_
        clear hK K
        try simp only [Act.put, List.setIfInBounds_toArray, List.set_cons_zero, List.set_cons_succ]
        have hgen : v65.alloc RZ = v65.alloc (.cells #[.int .i64 0, .int .i64 0, .string ⟨#[]⟩, .slice none 0 0, .slice none 0 0, .slice none 0 0, .int .i64 0] 35) := rfl
        rw [hgen] at HSt
        clear hgen
        generalize hgn : v65.alloc (.cells #[.int .i64 0, .int .i64 0, .string ⟨#[]⟩, .slice none 0 0, .slice none 0 0, .slice none 0 0, .int .i64 0] 35) = v80 at HSt ⊢
        clear hgn
        refine wpAnyS_ready [2] (by kernel_rfl) (by simp) ?_
        refine AllReadyS.cons ⟨some 44, .call { callee := .value (.func 12), args := #[.tmp 43], argTypes := #[23] }, 26, _, _, none⟩ rfl (fun K hK => ?_) AllReadyS.nil
        go_simp
        go_at_call 12
        refine (HARR.out _).mono ?_
        rintro e v81 ⟨rfl, hx⟩
        replace HSt := Lib.hid (HSt.out.step hx)
        clear hx
        try go_simp
        refine hK _ _ trivial (fun _ _ => CXK.out _ HSt.out.1) ?_
        clear hK K
        try simp only [Act.put, List.setIfInBounds_toArray, List.set_cons_zero, List.set_cons_succ]
        refine wpAnyS_ready [4] (by kernel_rfl) (by simp) ?_
        refine AllReadyS.cons ⟨some 46, .call { callee := .value (.func 30), args := #[.tmp 42, .tmp 44, .tmp 45], argTypes := #[26, 26, 26] }, 35, _, _, none⟩ rfl (fun K hK => ?_) AllReadyS.nil
        go_simp
        go_at_call 30
        refine (HSPA.out _ HSt.out.1).mono ?_
        rintro e v82 ⟨g0, g1, g2, g3, g4, g5, er, r, rfl, hx, hj, hres⟩
        obtain ⟨qr1, qr1n, qr2, qr2n, qr3, qr3n, rfl, rfl, rfl, rfl, rfl, rfl⟩ := hj.cells6
        replace HSt := Lib.hid (HSt.out.call1 hx hj)
        have HRr := Lib.hid hres
        clear hx hj hres
        try go_simp
        refine hK _ _ trivial (fun _ _ => CXK.out _ HSt.out.1) ?_
        clear hK K
        try simp only [Act.put, List.setIfInBounds_toArray, List.set_cons_zero, List.set_cons_succ]
        refine wpAnyS_ready [7] (by kernel_rfl) (by simp) ?_
        refine AllReadyS.cons ⟨some 49, .call { callee := .value (.func 12), args := #[.tmp 48], argTypes := #[23] }, 26, _, _, none⟩ rfl (fun K hK => ?_) AllReadyS.nil
        go_simp
        go_at_call 12
        refine (HARR.out _).mono ?_
        rintro e v83 ⟨rfl, hx⟩
        replace HSt := Lib.hid (HSt.out.step hx)
        clear hx
        try go_simp
        refine hK _ _ trivial (fun _ _ => CXK.out _ HSt.out.1) ?_
        clear hK K
        try simp only [Act.put, List.setIfInBounds_toArray, List.set_cons_zero, List.set_cons_succ]
        refine wpAnyS_ready [9] (by kernel_rfl) (by simp) ?_
        refine AllReadyS.cons ⟨some 51, .call { callee := .value (.func 30), args := #[.tmp 47, .tmp 49, .tmp 50], argTypes := #[26, 26, 26] }, 35, _, _, none⟩ rfl (fun K hK => ?_) AllReadyS.nil
        go_simp
        go_at_call 30
        refine (HSPB.out _ HSt.out.1).mono ?_
        rintro e v84 ⟨g0, g1, g2, g3, g4, g5, es, s, rfl, hx, hj, hres⟩
        obtain ⟨qs1, qs1n, qs2, qs2n, qs3, qs3n, rfl, rfl, rfl, rfl, rfl, rfl⟩ := hj.cells6
        replace HSt := Lib.hid (HSt.out.call2 hx hj)
        have HRs := Lib.hid hres
        clear hx hj hres
        try go_simp
        refine hK _ _ trivial (fun _ _ => CXK.out _ HSt.out.1) ?_
        clear hK K
        try simp only [Act.put, List.setIfInBounds_toArray, List.set_cons_zero, List.set_cons_succ]
        refine wpAnyS_rest 12 (fun _ => trivial) rfl (by kernel_rfl) (by kernel_rfl) ?_
        simp only [List.drop_succ_cons, List.drop_zero]
        have hc := HSt.out.cells
        obtain ⟨r0, r1, r2, r3, r4, r5, r6⟩ := hc.1.c
        have rf := hc.1.f
        have hc2 := hc.2 (.int .i64 r.kind) (.int .i64 r.half) (.string r.text) (.slice qr1 r.list.length qr1n) (.slice qr2 r.keys.length qr2n) (.slice qr3 r.vals.length qr3n) (.int .i64 er)
        obtain ⟨s0, s1, s2, s3, s4, s5, s6⟩ := hc2.c
        have sf := hc2.f
        unfold set7 set6 at s0 s1 s2 s3 s4 s5 s6 sf
        clear hc hc2
        go_wp2_with fail
        go_meet
        have hf := St.fin er es HSt.out rfl
        exact ⟨_, _, r, s, qr1, qr1n, qr2, qr2n, qr3, qr3n, qs1, qs1n, qs2, qs2n, qs3, qs3n, er, es, rfl, rfl, hf.1, hf.2.1, hf.2.2.1, hf.2.2.2.1, hf.2.2.2.2, HRr.out, HRs.out⟩
      refine AllReadyS.cons ⟨some 10, .alloc 35, 0, _, _, none⟩ rfl (fun K hK => ?_) AllReadyS.nil
      go_simp
      replace HSt := Lib.hid (HSt.out.alloc10)
      refine hK _ _ trivial (fun _ _ => CXK.out _ HSt.out.1) ?_
      clear hK K
      try simp only [Act.put, List.setIfInBounds_toArray, List.set_cons_zero, List.set_cons_succ]
      have hgen : v0.alloc RZ = v0.alloc (.cells #[.int .i64 0, .int .i64 0, .string ⟨#[]⟩, .slice none 0 0, .slice none 0 0, .slice none 0 0, .int .i64 0] 35) := rfl
      rw [hgen] at HSt
      clear hgen
      generalize hgn : v0.alloc (.cells #[.int .i64 0, .int .i64 0, .string ⟨#[]⟩, .slice none 0 0, .slice none 0 0, .slice none 0 0, .int .i64 0] 35) = v85 at HSt ⊢
      clear hgn
      refine wpAnyS_ready [2, 10] (by kernel_rfl) (by simp) ?_
      refine AllReadyS.cons ⟨some 44, .call { callee := .value (.func 12), args := #[.tmp 43], argTypes := #[23] }, 26, _, _, none⟩ rfl (fun K hK => ?_) ?_
      focus
        go_simp
        go_at_call 12
        refine (HARR.out _).mono ?_
        rintro e v86 ⟨rfl, hx⟩
        replace HSt := Lib.hid (HSt.out.step hx)
        clear hx
        try go_simp
        refine hK _ _ trivial (fun _ _ => CXK.out _ HSt.out.1) ?_
        clear hK K
        try simp only [Act.put, List.setIfInBounds_toArray, List.set_cons_zero, List.set_cons_succ]
        refine wpAnyS_ready [4, 10] (by kernel_rfl) (by simp) ?_
        refine AllReadyS.cons ⟨some 46, .call { callee := .value (.func 30), args := #[.tmp 42, .tmp 44, .tmp 45], argTypes := #[26, 26, 26] }, 35, _, _, none⟩ rfl (fun K hK => ?_) ?_
        focus
          go_simp
          go_at_call 30
          refine (HSPA.out _ HSt.out.1).mono ?_
          rintro e v87 ⟨g0, g1, g2, g3, g4, g5, er, r, rfl, hx, hj, hres⟩
          obtain ⟨qr1, qr1n, qr2, qr2n, qr3, qr3n, rfl, rfl, rfl, rfl, rfl, rfl⟩ := hj.cells6
          replace HSt := Lib.hid (HSt.out.call1 hx hj)
          have HRr := Lib.hid hres
          clear hx hj hres
          try go_simp
          refine hK _ _ trivial (fun _ _ => CXK.out _ HSt.out.1) ?_
          clear hK K
          try simp only [Act.put, List.setIfInBounds_toArray, List.set_cons_zero, List.set_cons_succ]
          refine wpAnyS_ready [7, 10] (by kernel_rfl) (by simp) ?_
          refine AllReadyS.cons ⟨some 49, .call { callee := .value (.func 12), args := #[.tmp 48], argTypes := #[23] }, 26, _, _, none⟩ rfl (fun K hK => ?_) ?_
          focus
            go_simp
            go_at_call 12
            refine (HARR.out _).mono ?_
            rintro e v88 ⟨rfl, hx⟩
            replace HSt := Lib.hid (HSt.out.step hx)
            clear hx
            try go_simp
            refine hK _ _ trivial (fun _ _ => CXK.out _ HSt.out.1) ?_
            clear hK K
            try simp only [Act.put, List.setIfInBounds_toArray, List.set_cons_zero, List.set_cons_succ]
            refine wpAnyS_ready [9, 10] (by kernel_rfl) (by simp) ?_
            refine AllReadyS.cons ⟨some 51, .call { callee := .value (.func 30), args := #[.tmp 47, .tmp 49, .tmp 50], argTypes := #[26, 26, 26] }, 35, _, _, none⟩ rfl (fun K hK => ?_) ?_
            focus
              go_simp
              go_at_call 30
              refine (HSPB.out _ HSt.out.1).mono ?_
              rintro e v89 ⟨g0, g1, g2, g3, g4, g5, es, s, rfl, hx, hj, hres⟩
              obtain ⟨qs1, qs1n, qs2, qs2n, qs3, qs3n, rfl, rfl, rfl, rfl, rfl, rfl⟩ := hj.cells6
              replace HSt := Lib.hid (HSt.out.call2 hx hj)
              have HRs := Lib.hid hres
              clear hx hj hres
              try go_simp
              refine hK _ _ trivial (fun _ _ => CXK.out _ HSt.out.1) ?_
              clear hK K
              try simp only [Act.put, List.setIfInBounds_toArray, List.set_cons_zero, List.set_cons_succ]
              refine wpAnyS_ready [10] (by kernel_rfl) (by simp) ?_
              refine AllReadyS.cons ⟨some 9, .alloc 35, 0, _, _, none⟩ rfl (fun K hK => ?_) AllReadyS.nil
              go_simp
              replace HSt := Lib.hid (HSt.out.alloc9)
              refine hK _ _ trivial (fun _ _ => CXK.out _ HSt.out.1) ?_
              clear hK K
              try simp only [Act.put, List.setIfInBounds_toArray, List.set_cons_zero, List.set_cons_succ]
              have hgen : v89.alloc RZ = v89.alloc (.cells #[.int .i64 0, .int .i64 0, .string ⟨#[]⟩, .slice none 0 0, .slice none 0 0, .slice none 0 0, .int .i64 0] 35) := rfl
              rw [hgen] at HSt
              clear hgen
              generalize hgn : v89.alloc (.cells #[.int .i64 0, .int .i64 0, .string ⟨#[]⟩, .slice none 0 0, .slice none 0 0, .slice none 0 0, .int .i64 0] 35) = v90 at HSt ⊢
              clear hgn
              refine wpAnyS_rest 12 (fun _ => trivial) rfl (by kernel_rfl) (by kernel_rfl) ?_
              simp only [List.drop_succ_cons, List.drop_zero]
              have hc := HSt.out.cells
              obtain ⟨r0, r1, r2, r3, r4, r5, r6⟩ := hc.1.c
              have rf := hc.1.f
              have hc2 := hc.2 (.int .i64 r.kind) (.int .i64 r.half) (.string r.text) (.slice qr1 r.list.length qr1n) (.slice qr2 r.keys.length qr2n) (.slice qr3 r.vals.length qr3n) (.int .i64 er)
              obtain ⟨s0, s1, s2, s3, s4, s5, s6⟩ := hc2.c
              have sf := hc2.f
              unfold set7 set6 at s0 s1 s2 s3 s4 s5 s6 sf
              clear hc hc2
              go_wp2_with fail
              go_meet
              have hf := St.fin er es HSt.out rfl
              exact ⟨_, _, r, s, qr1, qr1n, qr2, qr2n, qr3, qr3n, qs1, qs1n, qs2, qs2n, qs3, qs3n, er, es, rfl, rfl, hf.1, hf.2.1, hf.2.2.1, hf.2.2.2.1, hf.2.2.2.2, HRr.out, HRs.out⟩
            refine AllReadyS.cons ⟨some 9, .alloc 35, 0, _, _, none⟩ rfl (fun K hK => ?_) AllReadyS.nil
            go_simp
            replace HSt := Lib.hid (HSt.out.alloc9)
            refine hK _ _ trivial (fun _ _ => CXK.out _ HSt.out.1) ?_
            clear hK K
            try simp only [Act.put, List.setIfInBounds_toArray, List.set_cons_zero, List.set_cons_succ]
            have hgen : v88.alloc RZ = v88.alloc (.cells #[.int .i64 0, .int .i64 0, .string ⟨#[]⟩, .slice none 0 0, .slice none 0 0, .slice none 0 0, .int .i64 0] 35) := rfl
            rw [hgen] at HSt
            clear hgen
            generalize hgn : v88.alloc (.cells #[.int .i64 0, .int .i64 0, .string ⟨#[]⟩, .slice none 0 0, .slice none 0 0, .slice none 0 0, .int .i64 0] 35) = v91 at HSt ⊢
            clear hgn
            refine wpAnyS_ready [9] (by kernel_rfl) (by simp) ?_
            refine AllReadyS.cons ⟨some 51, .call { callee := .value (.func 30), args := #[.tmp 47, .tmp 49, .tmp 50], argTypes := #[26, 26, 26] }, 35, _, _, none⟩ rfl (fun K hK => ?_) AllReadyS.nil
            go_simp
            go_at_call 30
            refine (HSPB.out _ HSt.out.1).mono ?_
            rintro e v92 ⟨g0, g1, g2, g3, g4, g5, es, s, rfl, hx, hj, hres⟩
            obtain ⟨qs1, qs1n, qs2, qs2n, qs3, qs3n, rfl, rfl, rfl, rfl, rfl, rfl⟩ := hj.cells6
            replace HSt := Lib.hid (HSt.out.call2 hx hj)
            have HRs := Lib.hid hres
            clear hx hj hres
            try go_simp
            refine hK _ _ trivial (fun _ _ => CXK.out _ HSt.out.1) ?_
            clear hK K
            try simp only [Act.put, List.setIfInBounds_toArray, List.set_cons_zero, List.set_cons_succ]
            refine wpAnyS_rest 12 (fun _ => trivial) rfl (by kernel_rfl) (by kernel_rfl) ?_
            simp only [List.drop_succ_cons, List.drop_zero]
            have hc := HSt.out.cells
            obtain ⟨r0, r1, r2, r3, r4, r5, r6⟩ := hc.1.c
            have rf := hc.1.f
            have hc2 := hc.2 (.int .i64 r.kind) (.int .i64 r.half) (.string r.text) (.slice qr1 r.list.length qr1n) (.slice qr2 r.keys.length qr2n) (.slice qr3 r.vals.length qr3n) (.int .i64 er)
            obtain ⟨s0, s1, s2, s3, s4, s5, s6⟩ := hc2.c
            have sf := hc2.f
            unfold set7 set6 at s0 s1 s2 s3 s4 s5 s6 sf
            clear hc hc2
            go_wp2_with fail
            go_meet
            have hf := St.fin er es HSt.out rfl
            exact ⟨_, _, r, s, qr1, qr1n, qr2, qr2n, qr3, qr3n, qs1, qs1n, qs2, qs2n, qs3, qs3n, er, es, rfl, rfl, hf.1, hf.2.1, hf.2.2.1, hf.2.2.2.1, hf.2.2.2.2, HRr.out, HRs.out⟩
          refine AllReadyS.cons ⟨some 9, .alloc 35, 0, _, _, none⟩ rfl (fun K hK => ?_) AllReadyS.nil
          go_simp
          replace HSt := Lib.hid (HSt.out.alloc9)
          refine hK _ _ trivial (fun _ _ => CXK.out _ HSt.out.1) ?_
          clear hK K
          try simp only [Act.put, List.setIfInBounds_toArray, List.set_cons_zero, List.set_cons_succ]
          have hgen : v87.alloc RZ = v87.alloc (.cells #[.int .i64 0, .int .i64 0, .string ⟨#[]⟩, .slice none 0 0, .slice none 0 0, .slice none 0 0, .int .i64 0] 35) := rfl
          rw [hgen] at HSt
          clear hgen
          generalize hgn : v87.alloc (.cells #[.int .i64 0, .int .i64 0, .string ⟨#[]⟩, .slice none 0 0, .slice none 0 0, .slice none 0 0, .int .i64 0] 35) = v93 at HSt ⊢
          clear hgn
          refine wpAnyS_ready [7] (by kernel_rfl) (by simp) ?_
          refine AllReadyS.cons ⟨some 49, .call { callee := .value (.func 12), args := #[.tmp 48], argTypes := #[23] }, 26, _, _, none⟩ rfl (fun K hK => ?_) AllReadyS.nil
          go_simp
          go_at_call 12
          refine (HARR.out _).mono ?_
          rintro e v94 ⟨rfl, hx⟩
          replace HSt := Lib.hid (HSt.out.step hx)
          clear hx
          try go_simp
          refine hK _ _ trivial (fun _ _ => CXK.out _ HSt.out.1) ?_
          clear hK K
          try simp only [Act.put, List.setIfInBounds_toArray, List.set_cons_zero, List.set_cons_succ]
          refine wpAnyS_ready [9] (by kernel_rfl) (by simp) ?_
          refine AllReadyS.cons ⟨some 51, .call { callee := .value (.func 30), args := #[.tmp 47, .tmp 49, .tmp 50], argTypes := #[26, 26, 26] }, 35, _, _, none⟩ rfl (fun K hK => ?_) AllReadyS.nil
          go_simp
          go_at_call 30
          refine (HSPB.out _ HSt.out.1).mono ?_
          rintro e v95 ⟨g0, g1, g2, g3, g4, g5, es, s, rfl, hx, hj, hres⟩
          obtain ⟨qs1, qs1n, qs2, qs2n, qs3, qs3n, rfl, rfl, rfl, rfl, rfl, rfl⟩ := hj.cells6
          replace HSt := Lib.hid (HSt.out.call2 hx hj)
          have HRs := Lib.hid hres
          clear hx hj hres
          try go_simp
          refine hK _ _ trivial (fun _ _ => CXK.out _ HSt.out.1) ?_
          clear hK K
          try simp only [Act.put, List.setIfInBounds_toArray, List.set_cons_zero, List.set_cons_succ]
          refine wpAnyS_rest 12 (fun _ => trivial) rfl (by kernel_rfl) (by kernel_rfl) ?_
          simp only [List.drop_succ_cons, List.drop_zero]
          have hc := HSt.out.cells
          obtain ⟨r0, r1, r2, r3, r4, r5, r6⟩ := hc.1.c
          have rf := hc.1.f
          have hc2 := hc.2 (.int .i64 r.kind) (.int .i64 r.half) (.string r.text) (.slice qr1 r.list.length qr1n) (.slice qr2 r.keys.length qr2n) (.slice qr3 r.vals.length qr3n) (.int .i64 er)
          obtain ⟨s0, s1, s2, s3, s4, s5, s6⟩ := hc2.c
          have sf := hc2.f
          unfold set7 set6 at s0 s1 s2 s3 s4 s5 s6 sf
          clear hc hc2
          go_wp2_with fail
          go_meet
          have hf := St.fin er es HSt.out rfl
          exact ⟨_, _, r, s, qr1, qr1n, qr2, qr2n, qr3, qr3n, qs1, qs1n, qs2, qs2n, qs3, qs3n, er, es, rfl, rfl, hf.1, hf.2.1, hf.2.2.1, hf.2.2.2.1, hf.2.2.2.2, HRr.out, HRs.out⟩
        refine AllReadyS.cons ⟨some 9, .alloc 35, 0, _, _, none⟩ rfl (fun K hK => ?_) AllReadyS.nil
        go_simp
        replace HSt := Lib.hid (HSt.out.alloc9)
        refine hK _ _ trivial (fun _ _ => CXK.out _ HSt.out.1) ?_
        clear hK K
        try simp only [Act.put, List.setIfInBounds_toArray, List.set_cons_zero, List.set_cons_succ]
        have hgen : v86.alloc RZ = v86.alloc (.cells #[.int .i64 0, .int .i64 0, .string ⟨#[]⟩, .slice none 0 0, .slice none 0 0, .slice none 0 0, .int .i64 0] 35) := rfl
        rw [hgen] at HSt
        clear hgen
        generalize hgn : v86.alloc (.cells #[.int .i64 0, .int .i64 0, .string ⟨#[]⟩, .slice none 0 0, .slice none 0 0, .slice none 0 0, .int .i64 0] 35) = v96 at HSt ⊢
        clear hgn
        refine wpAnyS_ready [4] (by kernel_rfl) (by simp) ?_
        refine AllReadyS.cons ⟨some 46, .call { callee := .value (.func 30), args := #[.tmp 42, .tmp 44, .tmp 45], argTypes := #[26, 26, 26] }, 35, _, _, none⟩ rfl (fun K hK => ?_) AllReadyS.nil
        go_simp
        go_at_call 30
        refine (HSPA.out _ HSt.out.1).mono ?_
        rintro e v97 ⟨g0, g1, g2, g3, g4, g5, er, r, rfl, hx, hj, hres⟩
        obtain ⟨qr1, qr1n, qr2, qr2n, qr3, qr3n, rfl, rfl, rfl, rfl, rfl, rfl⟩ := hj.cells6
        replace HSt := Lib.hid (HSt.out.call1 hx hj)
        have HRr := Lib.hid hres
        clear hx hj hres
        try go_simp
        refine hK _ _ trivial (fun _ _ => CXK.out _ HSt.out.1) ?_
        clear hK K
        try simp only [Act.put, List.setIfInBounds_toArray, List.set_cons_zero, List.set_cons_succ]
        refine wpAnyS_ready [7] (by kernel_rfl) (by simp) ?_
        refine AllReadyS.cons ⟨some 49, .call { callee := .value (.func 12), args := #[.tmp 48], argTypes := #[23] }, 26, _, _, none⟩ rfl (fun K hK => ?_) AllReadyS.nil
        go_simp
        go_at_call 12
        refine (HARR.out _).mono ?_
        rintro e v98 ⟨rfl, hx⟩
        replace HSt := Lib.hid (HSt.out.step hx)
        clear hx
        try go_simp
        refine hK _ _ trivial (fun _ _ => CXK.out _ HSt.out.1) ?_
        clear hK K
        try simp only [Act.put, List.setIfInBounds_toArray, List.set_cons_zero, List.set_cons_succ]
        refine wpAnyS_ready [9] (by kernel_rfl) (by simp) ?_
        refine AllReadyS.cons ⟨some 51, .call { callee := .value (.func 30), args := #[.tmp 47, .tmp 49, .tmp 50], argTypes := #[26, 26, 26] }, 35, _, _, none⟩ rfl (fun K hK => ?_) AllReadyS.nil
        go_simp
        go_at_call 30
        refine (HSPB.out _ HSt.out.1).mono ?_
        rintro e v99 ⟨g0, g1, g2, g3, g4, g5, es, s, rfl, hx, hj, hres⟩
        obtain ⟨qs1, qs1n, qs2, qs2n, qs3, qs3n, rfl, rfl, rfl, rfl, rfl, rfl⟩ := hj.cells6
        replace HSt := Lib.hid (HSt.out.call2 hx hj)
        have HRs := Lib.hid hres
        clear hx hj hres
        try go_simp
        refine hK _ _ trivial (fun _ _ => CXK.out _ HSt.out.1) ?_
        clear hK K
        try simp only [Act.put, List.setIfInBounds_toArray, List.set_cons_zero, List.set_cons_succ]
        refine wpAnyS_rest 12 (fun _ => trivial) rfl (by kernel_rfl) (by kernel_rfl) ?_
        simp only [List.drop_succ_cons, List.drop_zero]
        have hc := HSt.out.cells
        obtain ⟨r0, r1, r2, r3, r4, r5, r6⟩ := hc.1.c
        have rf := hc.1.f
        have hc2 := hc.2 (.int .i64 r.kind) (.int .i64 r.half) (.string r.text) (.slice qr1 r.list.length qr1n) (.slice qr2 r.keys.length qr2n) (.slice qr3 r.vals.length qr3n) (.int .i64 er)
        obtain ⟨s0, s1, s2, s3, s4, s5, s6⟩ := hc2.c
        have sf := hc2.f
        unfold set7 set6 at s0 s1 s2 s3 s4 s5 s6 sf
        clear hc hc2
        go_wp2_with fail
        go_meet
        have hf := St.fin er es HSt.out rfl
        exact ⟨_, _, r, s, qr1, qr1n, qr2, qr2n, qr3, qr3n, qs1, qs1n, qs2, qs2n, qs3, qs3n, er, es, rfl, rfl, hf.1, hf.2.1, hf.2.2.1, hf.2.2.2.1, hf.2.2.2.2, HRr.out, HRs.out⟩
      refine AllReadyS.cons ⟨some 9, .alloc 35, 0, _, _, none⟩ rfl (fun K hK => ?_) AllReadyS.nil
      go_simp
      replace HSt := Lib.hid (HSt.out.alloc9)
      refine hK _ _ trivial (fun _ _ => CXK.out _ HSt.out.1) ?_
      clear hK K
      try simp only [Act.put, List.setIfInBounds_toArray, List.set_cons_zero, List.set_cons_succ]
      have hgen : v85.alloc RZ = v85.alloc (.cells #[.int .i64 0, .int .i64 0, .string ⟨#[]⟩, .slice none 0 0, .slice none 0 0, .slice none 0 0, .int .i64 0] 35) := rfl
      rw [hgen] at HSt
      clear hgen
      generalize hgn : v85.alloc (.cells #[.int .i64 0, .int .i64 0, .string ⟨#[]⟩, .slice none 0 0, .slice none 0 0, .slice none 0 0, .int .i64 0] 35) = v100 at HSt ⊢
      clear hgn
      refine wpAnyS_ready [2] (by kernel_rfl) (by simp) ?_
      refine AllReadyS.cons ⟨some 44, .call { callee := .value (.func 12), args := #[.tmp 43], argTypes := #[23] }, 26, _, _, none⟩ rfl (fun K hK => ?_) AllReadyS.nil
      go_simp
      go_at_call 12
      refine (HARR.out _).mono ?_
      rintro e v101 ⟨rfl, hx⟩
      replace HSt := Lib.hid (HSt.out.step hx)
      clear hx
      try go_simp
      refine hK _ _ trivial (fun _ _ => CXK.out _ HSt.out.1) ?_
      clear hK K
      try simp only [Act.put, List.setIfInBounds_toArray, List.set_cons_zero, List.set_cons_succ]
      refine wpAnyS_ready [4] (by kernel_rfl) (by simp) ?_
      refine AllReadyS.cons ⟨some 46, .call { callee := .value (.func 30), args := #[.tmp 42, .tmp 44, .tmp 45], argTypes := #[26, 26, 26] }, 35, _, _, none⟩ rfl (fun K hK => ?_) AllReadyS.nil
      go_simp
      go_at_call 30
      refine (HSPA.out _ HSt.out.1).mono ?_
      rintro e v102 ⟨g0, g1, g2, g3, g4, g5, er, r, rfl, hx, hj, hres⟩
      obtain ⟨qr1, qr1n, qr2, qr2n, qr3, qr3n, rfl, rfl, rfl, rfl, rfl, rfl⟩ := hj.cells6
      replace HSt := Lib.hid (HSt.out.call1 hx hj)
      have HRr := Lib.hid hres
      clear hx hj hres
      try go_simp
      refine hK _ _ trivial (fun _ _ => CXK.out _ HSt.out.1) ?_
      clear hK K
      try simp only [Act.put, List.setIfInBounds_toArray, List.set_cons_zero, List.set_cons_succ]
      refine wpAnyS_ready [7] (by kernel_rfl) (by simp) ?_
      refine AllReadyS.cons ⟨some 49, .call { callee := .value (.func 12), args := #[.tmp 48], argTypes := #[23] }, 26, _, _, none⟩ rfl (fun K hK => ?_) AllReadyS.nil
      go_simp
      go_at_call 12
      refine (HARR.out _).mono ?_
      rintro e v103 ⟨rfl, hx⟩
      replace HSt := Lib.hid (HSt.out.step hx)
      clear hx
      try go_simp
      refine hK _ _ trivial (fun _ _ => CXK.out _ HSt.out.1) ?_
      clear hK K
      try simp only [Act.put, List.setIfInBounds_toArray, List.set_cons_zero, List.set_cons_succ]
      refine wpAnyS_ready [9] (by kernel_rfl) (by simp) ?_
      refine AllReadyS.cons ⟨some 51, .call { callee := .value (.func 30), args := #[.tmp 47, .tmp 49, .tmp 50], argTypes := #[26, 26, 26] }, 35, _, _, none⟩ rfl (fun K hK => ?_) AllReadyS.nil
      go_simp
      go_at_call 30
      refine (HSPB.out _ HSt.out.1).mono ?_
      rintro e v104 ⟨g0, g1, g2, g3, g4, g5, es, s, rfl, hx, hj, hres⟩
      obtain ⟨qs1, qs1n, qs2, qs2n, qs3, qs3n, rfl, rfl, rfl, rfl, rfl, rfl⟩ := hj.cells6
      replace HSt := Lib.hid (HSt.out.call2 hx hj)
      have HRs := Lib.hid hres
      clear hx hj hres
      try go_simp
      refine hK _ _ trivial (fun _ _ => CXK.out _ HSt.out.1) ?_
      clear hK K
      try simp only [Act.put, List.setIfInBounds_toArray, List.set_cons_zero, List.set_cons_succ]
      refine wpAnyS_rest 12 (fun _ => trivial) rfl (by kernel_rfl) (by kernel_rfl) ?_
      simp only [List.drop_succ_cons, List.drop_zero]
      have hc := HSt.out.cells
      obtain ⟨r0, r1, r2, r3, r4, r5, r6⟩ := hc.1.c
      have rf := hc.1.f
      have hc2 := hc.2 (.int .i64 r.kind) (.int .i64 r.half) (.string r.text) (.slice qr1 r.list.length qr1n) (.slice qr2 r.keys.length qr2n) (.slice qr3 r.vals.length qr3n) (.int .i64 er)
      obtain ⟨s0, s1, s2, s3, s4, s5, s6⟩ := hc2.c
      have sf := hc2.f
      unfold set7 set6 at s0 s1 s2 s3 s4 s5 s6 sf
      clear hc hc2
      go_wp2_with fail
      go_meet
      have hf := St.fin er es HSt.out rfl
      exact ⟨_, _, r, s, qr1, qr1n, qr2, qr2n, qr3, qr3n, qs1, qs1n, qs2, qs2n, qs3, qs3n, er, es, rfl, rfl, hf.1, hf.2.1, hf.2.2.1, hf.2.2.2.1, hf.2.2.2.2, HRr.out, HRs.out⟩
    case rest =>
      obtain ⟨B9, B10, r, s, qr1, qr1n, qr2, qr2n, qr3, qr3n, qs1, qs1n, qs2, qs2n, qs3, qs3n, er, es, rfl, rfl, hbw, h9, h10, hjr, hjs, hr, hs⟩ := hcut
      have hl9 := World.block_lt_of_cell? wc _ h9.c.1
      have hl10 := World.block_lt_of_cell? wc _ h10.c.1
      have HC0 := Lib.hid (Below.refl wc.heap.size wc)
      have KW := Lib.hid (fun w1 (h1 : Below wc.heap.size wc w1) => KJ.out w1 (hbw.trans (h1.mono hbw.size)))
      have CB : Hid (∀ w1, Below wc.heap.size wc w1 → ((w1.cell? ⟨B9, 0, none⟩ = some (.int .i64 r.kind) ∧ w1.cell? ⟨B9, 1, none⟩ = some (.int .i64 r.half) ∧ w1.cell? ⟨B9, 2, none⟩ = some (.string r.text) ∧ w1.cell? ⟨B9, 3, none⟩ = some (.slice qr1 r.list.length qr1n) ∧ w1.cell? ⟨B9, 4, none⟩ = some (.slice qr2 r.keys.length qr2n) ∧ w1.cell? ⟨B9, 5, none⟩ = some (.slice qr3 r.vals.length qr3n) ∧ w1.cell? ⟨B9, 6, none⟩ = some (.int .i64 er)) ∧ (w1.cell? ⟨B10, 0, none⟩ = some (.int .i64 s.kind) ∧ w1.cell? ⟨B10, 1, none⟩ = some (.int .i64 s.half) ∧ w1.cell? ⟨B10, 2, none⟩ = some (.string s.text) ∧ w1.cell? ⟨B10, 3, none⟩ = some (.slice qs1 s.list.length qs1n) ∧ w1.cell? ⟨B10, 4, none⟩ = some (.slice qs2 s.keys.length qs2n) ∧ w1.cell? ⟨B10, 5, none⟩ = some (.slice qs3 s.vals.length qs3n) ∧ w1.cell? ⟨B10, 6, none⟩ = some (.int .i64 es)) ∧ (w1.cell? ⟨(w.heap.size + 1 + 1), 0, none⟩ = some (.int .i64 b.kind) ∧ w1.cell? ⟨(w.heap.size + 1 + 1), 1, none⟩ = some (.int .i64 b.half) ∧ w1.cell? ⟨(w.heap.size + 1 + 1), 2, none⟩ = some (.string b.text) ∧ w1.cell? ⟨(w.heap.size + 1 + 1), 3, none⟩ = some (.slice a3 b.list.length ma3) ∧ w1.cell? ⟨(w.heap.size + 1 + 1), 4, none⟩ = some (.slice b3 b.keys.length mb3) ∧ w1.cell? ⟨(w.heap.size + 1 + 1), 5, none⟩ = some (.slice c3 b.vals.length mc3)))) := Lib.hid (fun w1 h1 => ⟨Box7.c ((h1.block B9 hl9).trans h9), Box7.c ((h1.block B10 hl10).trans h10), (CXK.out w1 (hbw.trans (h1.mono hbw.size))).2.2⟩)
      have JR : Hid (∀ w1, Below wc.heap.size wc w1 → JRep w1 (allB w1) r (.agg #[.int .i64 r.kind, .int .i64 r.half, .string r.text, .slice qr1 r.list.length qr1n, .slice qr2 r.keys.length qr2n, .slice qr3 r.vals.length qr3n])) := Lib.hid (fun w1 h1 => hjr.keep (.of_below h1 (fun _ h => h)) (fun b hb => Nat.lt_of_lt_of_le hb h1.size))
      have JS : Hid (∀ w1, Below wc.heap.size wc w1 → JRep w1 (allB w1) s (.agg #[.int .i64 s.kind, .int .i64 s.half, .string s.text, .slice qs1 s.list.length qs1n, .slice qs2 s.keys.length qs2n, .slice qs3 s.vals.length qs3n])) := Lib.hid (fun w1 h1 => hjs.keep (.of_below h1 (fun _ h => h)) (fun b hb => Nat.lt_of_lt_of_le hb h1.size))
      clear hbw h9 h10 hl9 hl10 hjr hjs HSPA HSPB
      cases ha : setJ x p a with
      | none =>
        have hb := setJ_none p x a b ha
        rw [ha] at hr
        rw [hb] at hs
        obtain ⟨rfl, rfl⟩ : r = .null ∧ er = 1 := hr
        obtain ⟨rfl, rfl⟩ : s = .null ∧ es = 1 := hs
        obtain ⟨⟨r0, r1, r2, r3, r4, r5, r6⟩, ⟨s0, s1, s2, s3, s4, s5, s6⟩, ⟨z0, z1, z2, z3, z4, z5⟩⟩ := CB.out wc HC0.out
        go_wp2_with fail
        exact bodyPost_ret (v := .bool true) (by simp [results, Tryz.results6, go_sem]) rfl ⟨rfl, (KEY.out _ (KW.out _ HC0.out).1).1⟩
      | some r0 =>
        cases hb : setJ x p b with
        | none => exact absurd (setJ_none p x b a hb) (by rw [ha]; simp)
        | some s0 =>
          rw [ha] at hr
          rw [hb] at hs
          obtain ⟨hrr, rfl⟩ : r = r0 ∧ er = 0 := hr
          obtain ⟨hss, rfl⟩ : s = s0 ∧ es = 0 := hs
          subst hrr hss
          have hro : r.ok := okn_ok (n := 2001) (by unfold lim; omega) r (HSX.out r ha)
          have hso : s.ok := okn_ok (n := 2001) (by unfold lim; omega) s (HSY.out s hb)
          have htw : setJ r p b = some s := (setJ_twice p x a b r ha).trans hb
          have hget : getJ s p = some b := setJ_get p x b s hb
          have hsp := fun w1 (h1 : Below wc.heap.size wc w1) => SetPath_use r b p hro HF.out.2.1 HF.out.2.2.2.2.2 (fit_ok HF.out.2.2.2.1) (fun z hz => by rw [htw] at hz; obtain rfl := Option.some.inj hz; exact sz_of_ok s hso) w1 (allB w1) (fun _ h => h) _ _ _ (JR.out w1 h1) ((KW.out w1 h1).2.2.2.1.keep (fun _ _ => rfl) (KW.out w1 h1).2.1) ((KW.out w1 h1).2.2.2.2.2.keep (fun _ _ => rfl) (KW.out w1 h1).2.1)
          rw [htw] at hsp
          have HSP := Lib.hid hsp
          have hgp := fun w1 (h1 : Below wc.heap.size wc w1) => GetPath_use s p hso HF.out.2.1 HF.out.2.2.2.2.2 HF.out.2.2.2.2.1 w1 (allB w1) (fun _ h => h) _ _ (JS.out w1 h1) ((KW.out w1 h1).2.2.2.1.keep (fun _ _ => rfl) (KW.out w1 h1).2.1)
          rw [hget] at hgp
          have HGP := Lib.hid hgp
          have HGS := Lib.hid (fun w1 (h1 : Below wc.heap.size wc w1) (S2 : Nat → Prop) (g0 g1 g2 g3 g4 g5 : Value) (hS2 : ∀ b, S2 b → b < w1.heap.size) (hv : JRep w1 S2 s (.agg #[g0, g1, g2, g3, g4, g5])) => by have q := given_ok s s 0 w1 (allB w1) g0 g1 g2 g3 g4 g5 (.agg #[.int .i64 s.kind, .int .i64 s.half, .string s.text, .slice qs1 s.list.length qs1n, .slice qs2 s.keys.length qs2n, .slice qs3 s.vals.length qs3n]) hso hso (fun _ h => h) (hv.keep (fun _ _ => rfl) hS2) (JS.out w1 h1) (by decide); rw [cmp_ss] at q; exact q)
          have HGB := Lib.hid (fun w1 (h1 : Below wc.heap.size wc w1) (S2 : Nat → Prop) (g0 g1 g2 g3 g4 g5 : Value) (hS2 : ∀ b, S2 b → b < w1.heap.size) (hv : JRep w1 S2 b (.agg #[g0, g1, g2, g3, g4, g5])) => by have q := given_ok b b 0 w1 (allB w1) g0 g1 g2 g3 g4 g5 (.agg #[.int .i64 b.kind, .int .i64 b.half, .string b.text, .slice a3 b.list.length ma3, .slice b3 b.keys.length mb3, .slice c3 b.vals.length mc3]) (fit_ok HF.out.2.2.2.1) (fit_ok HF.out.2.2.2.1) (fun _ h => h) (hv.keep (fun _ _ => rfl) hS2) ((KW.out w1 h1).2.2.2.2.2.keep (fun _ _ => rfl) (KW.out w1 h1).2.1) (by decide); rw [cmp_ss] at q; exact q)
          clear hro hso htw hget hsp hgp ha hb
          obtain ⟨⟨r0, r1, r2, r3, r4, r5, r6⟩, ⟨s0, s1, s2, s3, s4, s5, s6⟩, ⟨z0, z1, z2, z3, z4, z5⟩⟩ := CB.out wc HC0.out
          go_upto_region 8 with fail
          clear r0 r1 r2 r3 r4 r5 r6 s0 s1 s2 s3 s4 s5 s6 z0 z1 z2 z3 z4 z5
          have HQ0 := Lib.hid HC0.out.drew
          go_region_held3 (fun w1 => ((w1.cell? ⟨B9, 0, none⟩ = some (.int .i64 r.kind) ∧ w1.cell? ⟨B9, 1, none⟩ = some (.int .i64 r.half) ∧ w1.cell? ⟨B9, 2, none⟩ = some (.string r.text) ∧ w1.cell? ⟨B9, 3, none⟩ = some (.slice qr1 r.list.length qr1n) ∧ w1.cell? ⟨B9, 4, none⟩ = some (.slice qr2 r.keys.length qr2n) ∧ w1.cell? ⟨B9, 5, none⟩ = some (.slice qr3 r.vals.length qr3n) ∧ w1.cell? ⟨B9, 6, none⟩ = some (.int .i64 0)) ∧ (w1.cell? ⟨B10, 0, none⟩ = some (.int .i64 s.kind) ∧ w1.cell? ⟨B10, 1, none⟩ = some (.int .i64 s.half) ∧ w1.cell? ⟨B10, 2, none⟩ = some (.string s.text) ∧ w1.cell? ⟨B10, 3, none⟩ = some (.slice qs1 s.list.length qs1n) ∧ w1.cell? ⟨B10, 4, none⟩ = some (.slice qs2 s.keys.length qs2n) ∧ w1.cell? ⟨B10, 5, none⟩ = some (.slice qs3 s.vals.length qs3n) ∧ w1.cell? ⟨B10, 6, none⟩ = some (.int .i64 0)) ∧ (w1.cell? ⟨(w.heap.size + 1 + 1), 0, none⟩ = some (.int .i64 b.kind) ∧ w1.cell? ⟨(w.heap.size + 1 + 1), 1, none⟩ = some (.int .i64 b.half) ∧ w1.cell? ⟨(w.heap.size + 1 + 1), 2, none⟩ = some (.string b.text) ∧ w1.cell? ⟨(w.heap.size + 1 + 1), 3, none⟩ = some (.slice a3 b.list.length ma3) ∧ w1.cell? ⟨(w.heap.size + 1 + 1), 4, none⟩ = some (.slice b3 b.keys.length mb3) ∧ w1.cell? ⟨(w.heap.size + 1 + 1), 5, none⟩ = some (.slice c3 b.vals.length mc3))))
            (first | with_reducible exact CB.out _ HQ0.out | with_reducible exact CB.out _ HQ1.out | with_reducible exact CB.out _ HQ2.out | with_reducible exact CB.out _ HQ3.out | with_reducible exact CB.out _ HQ4.out | with_reducible exact CB.out _ HQ5.out | with_reducible exact CB.out _ HQ6.out)
            (first
              | (go_at_call 30; (with_reducible refine (HSP.out _ HQ1.out).mono ?_); rintro e w13 ⟨g0, g1, g2, g3, g4, g5, en, zz, rfl, hx, hjj, hres⟩; obtain ⟨hzs, rfl⟩ : zz = s ∧ en = 0 := hres; subst hzs; have HQ2 := Lib.hid (HQ1.out.trans (hx.mono HQ1.out.size)); clear hx; have HJ2 := Lib.hid hjj; clear hjj)
              | (go_at_call 16; (with_reducible refine (HGP.out _ HQ4.out).mono ?_); rintro e w14 ⟨k0, k1, k2, k3, k4, k5, en, zz, rfl, hx, hjj, hres⟩; obtain ⟨hzs, rfl⟩ : zz = b ∧ en = 0 := hres; subst hzs; have HQ5 := Lib.hid (HQ4.out.trans (hx.mono HQ4.out.size)); clear hx; have HJ5 := Lib.hid hjj; clear hjj)
              | (go_at_call 17; (with_reducible refine (HGS.out _ HQ2.out _ _ _ _ _ _ _ since_lt HJ2.out).mono ?_); rintro e w15 ⟨rfl, hx⟩; have HQ3 := Lib.hid (HQ2.out.trans (hx.mono HQ2.out.size)); clear hx)
              | (go_at_call 17; (with_reducible refine (HGB.out _ HQ5.out _ _ _ _ _ _ _ since_lt HJ5.out).mono ?_); rintro e w16 ⟨rfl, hx⟩; have HQ6 := Lib.hid (HQ5.out.trans (hx.mono HQ5.out.size)); clear hx)
              | (go_at_call 12; (with_reducible refine (HARR.out _).mono ?_); rintro e w17 ⟨rfl, hx⟩; have HQ4 := Lib.hid (HQ3.out.trans (hx.mono HQ3.out.size)); clear hx)
              | (go_at_call 12; (with_reducible refine (HARR.out _).mono ?_); rintro e w17 ⟨rfl, hx⟩; have HQ1 := Lib.hid (HQ0.out.trans (hx.mono HQ0.out.size)); clear hx))
          go_wp2_with fail
          exact bodyPost_ret (v := .bool true) (by simp [results, Tryz.results6, go_sem]) rfl ⟨rfl, (KEY.out _ (KW.out _ HQ6.out).1).1⟩
end Go.Gj
