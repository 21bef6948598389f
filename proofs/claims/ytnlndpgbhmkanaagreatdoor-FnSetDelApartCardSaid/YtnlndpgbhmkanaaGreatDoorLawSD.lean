/-
  laws.FnSetDelApart. (Printed by wip/gen_sd.py.)
-/
import Derived.Test.YtnlndpgbhmkanaaGreatDoorWApart
namespace Go.Gj
set_option linter.unusedSimpArgs false
set_option linter.unusedVariables false
set_option linter.unnecessarySimpa false
open Go Go.RowKit Go.Proofs

theorem wpAnyS_named {P : Program} {md : Region.Mode} {ops : Array Oper} {Q : Exit → Act → World → Prop} {tl : Nat → Bool} {S T : World → Prop} {fuel : Nat} {listed : Array Bool} {a : Act} {w : World}
    (h : ∀ (F : Nat → Array Bool → Act → World → Prop) (a0 : Act), F = wpAnyS P md ops Q tl S T → a0 = a → F fuel listed a0 w) : wpAnyS P md ops Q tl S T fuel listed a w := h _ _ rfl rfl

theorem since_lt {n : Nat} {w : World} : ∀ b, since n w b → b < w.heap.size := fun _ h => h.2
theorem arr_fit_ok {p : List J} (h : (J.arr p).fit) : ∀ k ∈ p, k.ok := fun k hk => fit_ok ((oksn_iff _ _).1 h.2 k hk)
theorem cmp_ss (x : J) : ((0 : Int) == 0 && cmpJ x x == 0) = true := by rw [cmpJ_self]; rfl

/-- A slice of four records, in a new block. -/
theorem four_sl {w : World} {S : Nat → Prop} (hS : ∀ b, S b → b < w.heap.size) {u v x y : V} {k h k1 h1 k2 h2 k3 h3 : Int} {t t1 t2 t3 : ByteArray} {s1 s2 s3 p1 p2 p3 q1 q2 q3 r1 r2 r3 : Value} (hr0 : VRep w S u (.agg #[.int .i64 k, .int .i64 h, .string t, s1, s2, s3])) (hr1 : VRep w S v (.agg #[.int .i64 k1, .int .i64 h1, .string t1, p1, p2, p3])) (hr2 : VRep w S x (.agg #[.int .i64 k2, .int .i64 h2, .string t2, q1, q2, q3])) (hr3 : VRep w S y (.agg #[.int .i64 k3, .int .i64 h3, .string t3, r1, r2, r3])) :
    SlOf (allB (w.alloc (.cells #[.int .i64 k, .int .i64 h, .string t, s1, s2, s3, .int .i64 k1, .int .i64 h1, .string t1, p1, p2, p3, .int .i64 k2, .int .i64 h2, .string t2, q1, q2, q3, .int .i64 k3, .int .i64 h3, .string t3, r1, r2, r3] 26))) [u, v, x, y].length (fun b o => VCells (w.alloc (.cells #[.int .i64 k, .int .i64 h, .string t, s1, s2, s3, .int .i64 k1, .int .i64 h1, .string t1, p1, p2, p3, .int .i64 k2, .int .i64 h2, .string t2, q1, q2, q3, .int .i64 k3, .int .i64 h3, .string t3, r1, r2, r3] 26)) (allB (w.alloc (.cells #[.int .i64 k, .int .i64 h, .string t, s1, s2, s3, .int .i64 k1, .int .i64 h1, .string t1, p1, p2, p3, .int .i64 k2, .int .i64 h2, .string t2, q1, q2, q3, .int .i64 k3, .int .i64 h3, .string t3, r1, r2, r3] 26))) b [u, v, x, y] o) (.slice (some ⟨w.heap.size, 0, none⟩) [u, v, x, y].length 4) := by
  have hb := below1 w (.cells #[.int .i64 k, .int .i64 h, .string t, s1, s2, s3, .int .i64 k1, .int .i64 h1, .string t1, p1, p2, p3, .int .i64 k2, .int .i64 h2, .string t2, q1, q2, q3, .int .i64 k3, .int .i64 h3, .string t3, r1, r2, r3] 26)
  have hS' : ∀ b, S b → allB (w.alloc (.cells #[.int .i64 k, .int .i64 h, .string t, s1, s2, s3, .int .i64 k1, .int .i64 h1, .string t1, p1, p2, p3, .int .i64 k2, .int .i64 h2, .string t2, q1, q2, q3, .int .i64 k3, .int .i64 h3, .string t3, r1, r2, r3] 26)) b := lt_below hb hS
  have hc : ∀ i v', (#[.int .i64 k, .int .i64 h, .string t, s1, s2, s3, .int .i64 k1, .int .i64 h1, .string t1, p1, p2, p3, .int .i64 k2, .int .i64 h2, .string t2, q1, q2, q3, .int .i64 k3, .int .i64 h3, .string t3, r1, r2, r3] : Array Value)[i]? = some v' → (w.alloc (.cells #[.int .i64 k, .int .i64 h, .string t, s1, s2, s3, .int .i64 k1, .int .i64 h1, .string t1, p1, p2, p3, .int .i64 k2, .int .i64 h2, .string t2, q1, q2, q3, .int .i64 k3, .int .i64 h3, .string t3, r1, r2, r3] 26)).cell? ⟨w.heap.size, i, none⟩ = some v' := fun i v' hv => by
    unfold World.cell?
    rw [heap_alloc_new w _]
    exact hv
  refine ⟨some ⟨w.heap.size, 0, none⟩, 4, rfl, by unfold mostLen; simp, .inr ⟨w.heap.size, 0, rfl, by unfold allB; rw [size_alloc]; omega, ?_⟩⟩
  refine ⟨⟨_, _, _, _, _, _, hc 0 _ rfl, hc 1 _ rfl, hc 2 _ rfl, hc 3 _ rfl, hc 4 _ rfl, hc 5 _ rfl, VRep.keep (.of_below hb hS) hS' _ _ hr0⟩, ⟨_, _, _, _, _, _, hc 6 _ rfl, hc 7 _ rfl, hc 8 _ rfl, hc 9 _ rfl, hc 10 _ rfl, hc 11 _ rfl, VRep.keep (.of_below hb hS) hS' _ _ hr1⟩, ⟨_, _, _, _, _, _, hc 12 _ rfl, hc 13 _ rfl, hc 14 _ rfl, hc 15 _ rfl, hc 16 _ rfl, hc 17 _ rfl, VRep.keep (.of_below hb hS) hS' _ _ hr2⟩, ⟨_, _, _, _, _, _, hc 18 _ rfl, hc 19 _ rfl, hc 20 _ rfl, hc 21 _ rfl, hc 22 _ rfl, hc 23 _ rfl, VRep.keep (.of_below hb hS) hS' _ _ hr3⟩, trivial⟩


theorem fit_sd {u v4 : V} {l m : List V} (h : ∀ x ∈ [u, V.mk 5 0 ⟨#[]⟩ l [] [], V.mk 5 0 ⟨#[]⟩ m [] [], v4], ∃ y : J, y.fit ∧ x = y.toV) : ∃ (x : J) (p q : List J) (b : J), x.fit ∧ u = x.toV ∧ (J.arr p).fit ∧ l = J.toVs p ∧ (J.arr q).fit ∧ m = J.toVs q ∧ b.fit ∧ v4 = b.toV := by
  obtain ⟨x, p, hx, hu, hp, hl⟩ := fit_two (u := u) (l := l) (fun z hz => h z (by simp only [List.mem_cons, List.not_mem_nil, or_false] at hz ⊢; rcases hz with hz | hz <;> simp [hz]))
  obtain ⟨b, q, hb, h4, hq, hm⟩ := fit_two (u := v4) (l := m) (fun z hz => h z (by simp only [List.mem_cons, List.not_mem_nil, or_false] at hz ⊢; rcases hz with hz | hz <;> simp [hz]))
  exact ⟨x, p, q, b, hx, hu, hp, hl, hq, hm, hb, h4⟩

theorem apart_okV (l m : List V) (p q : List J) (hl : l = J.toVs p) (hm : m = J.toVs q) (hp : ∀ k ∈ p, k.ok) (hq : ∀ k ∈ q, k.ok) (w : World) (S : Nat → Prop) (hS : ∀ b, S b → b < w.heap.size) (a a' : Option Addr) (c c' : Nat) (h : SlOf S l.length (fun b o => VCells w S b l o) (.slice a l.length c)) (h' : SlOf S m.length (fun b o => VCells w S b m o) (.slice a' m.length c')) :
    Calls Tryz.prog 35 #[.slice a l.length c, .slice a' m.length c'] w fun e w' => ∃ d, e = .returned (.bool d) ∧ Below w.heap.size w w' ∧ (d = true → apartJ p q) := by
  subst hl hm
  rw [toVs_length] at h h' ⊢
  rw [toVs_length]
  exact apart_ok p q hp hq w S hS a a' c c' h h'

theorem keyed_okV (m : List V) (q : List J) (hm : m = J.toVs q) (w : World) (S : Nat → Prop) (a : Option Addr) (c : Nat) (h : SlOf S m.length (fun b o => VCells w S b m o) (.slice a m.length c)) :
    Calls Tryz.prog 36 #[.slice a m.length c] w fun e w' => ∃ d, e = .returned (.bool d) ∧ Below w.heap.size w w' ∧ (d = true → keyedJ q) := by
  subst hm
  rw [toVs_length] at h ⊢
  exact keyed_ok q w S a c h

theorem one_repV {w : World} {B : Nat} {q : List J} {m : List V} (hm : m = J.toVs q) {a : Option Addr} {c : Nat} (hb : w.heap[B]? = some (.cells #[.int .i64 5, .int .i64 0, .string ⟨#[]⟩, .slice a m.length c, .slice none 0 0, .slice none 0 0] 26)) (hq : JRep w (allB w) (.arr q) (.agg #[.int .i64 5, .int .i64 0, .string ⟨#[]⟩, .slice a m.length c, .slice none 0 0, .slice none 0 0])) :
    JX w none none (.arr [.arr q]) (.agg #[.int .i64 5, .int .i64 0, .string ⟨#[]⟩, .slice (some ⟨B, 0, none⟩) 1 1, .slice none 0 0, .slice none 0 0]) := by
  subst hm
  rw [toVs_length] at hb hq
  exact ⟨allB w, one_rep hb hq, fun _ h => h, by simp, by simp⟩

set_option maxHeartbeats 40000000 in
set_option maxRecDepth 100000 in
/-- laws.FnSetDelApart: it answers true. -/
theorem FnSetDelApart_ok (u1 : V) (l m : List V) (u3 : V) (w : World) (S : Nat → Prop) (v1 vp vq v3 : Value) (hT : Tabs w) (hS : ∀ b, S b → b < w.heap.size) (hr1 : VRep w S u1 v1) (hp : SlOf S l.length (fun b o => VCells w S b l o) vp) (hq : SlOf S m.length (fun b o => VCells w S b m o) vq) (hr3 : VRep w S u3 v3) :
    Calls Tryz.prog 8 #[v1, .agg #[vp, vq], v3] w fun e w' => e = .returned (.bool true) ∧ Below w.heap.size w w' := by
  obtain ⟨k1, h1, t1, a1, na1, ma1, b1, nb1, mb1, c1, nc1, mc1, rfl⟩ := hr1.shape
  obtain ⟨k3, h3, t3, a3, na3, ma3, b3, nb3, mb3, c3, nc3, mc3, rfl⟩ := hr3.shape
  have hp0 := hp
  obtain ⟨pa, pc, rfl, hpn, _⟩ := hp0
  have hq0 := hq
  obtain ⟨qa, qc, rfl, hqn, _⟩ := hq0
  have hB := below3 w (.cells #[.int .i64 k1, .int .i64 h1, .string t1, .slice a1 na1 ma1, .slice b1 nb1 mb1, .slice c1 nc1 mc1] 26) (.cells #[.slice pa l.length pc, .slice qa m.length qc] 50) (.cells #[.int .i64 k3, .int .i64 h3, .string t3, .slice a3 na3 ma3, .slice b3 nb3 mb3, .slice c3 nc3 mc3] 26)
  have e1 : (w.alloc (.cells #[.int .i64 k1, .int .i64 h1, .string t1, .slice a1 na1 ma1, .slice b1 nb1 mb1, .slice c1 nc1 mc1] 26)).heap.size = w.heap.size + 1 := size_alloc _ _
  have e2 : ((w.alloc (.cells #[.int .i64 k1, .int .i64 h1, .string t1, .slice a1 na1 ma1, .slice b1 nb1 mb1, .slice c1 nc1 mc1] 26)).alloc (.cells #[.slice pa l.length pc, .slice qa m.length qc] 50)).heap.size = w.heap.size + 2 := by rw [size_alloc, e1]
  have e3 : (((w.alloc (.cells #[.int .i64 k1, .int .i64 h1, .string t1, .slice a1 na1 ma1, .slice b1 nb1 mb1, .slice c1 nc1 mc1] 26)).alloc (.cells #[.slice pa l.length pc, .slice qa m.length qc] 50)).alloc (.cells #[.int .i64 k3, .int .i64 h3, .string t3, .slice a3 na3 ma3, .slice b3 nb3 mb3, .slice c3 nc3 mc3] 26)).heap.size = w.heap.size + 3 := by rw [size_alloc, e2]
  have q1 := Box.new w k1 h1 t1 (.slice a1 na1 ma1) (.slice b1 nb1 mb1) (.slice c1 nc1 mc1)
  have q2 := heap_alloc_new (w.alloc (.cells #[.int .i64 k1, .int .i64 h1, .string t1, .slice a1 na1 ma1, .slice b1 nb1 mb1, .slice c1 nc1 mc1] 26)) (.cells #[.slice pa l.length pc, .slice qa m.length qc] 50)
  have q3 := Box.new ((w.alloc (.cells #[.int .i64 k1, .int .i64 h1, .string t1, .slice a1 na1 ma1, .slice b1 nb1 mb1, .slice c1 nc1 mc1] 26)).alloc (.cells #[.slice pa l.length pc, .slice qa m.length qc] 50)) k3 h3 t3 (.slice a3 na3 ma3) (.slice b3 nb3 mb3) (.slice c3 nc3 mc3)
  rw [e1] at q2
  rw [e2] at q3
  replace q1 := ((Below.heap_alloc ((w.alloc (.cells #[.int .i64 k1, .int .i64 h1, .string t1, .slice a1 na1 ma1, .slice b1 nb1 mb1, .slice c1 nc1 mc1] 26)).alloc (.cells #[.slice pa l.length pc, .slice qa m.length qc] 50)) (.cells #[.int .i64 k3, .int .i64 h3, .string t3, .slice a3 na3 ma3, .slice b3 nb3 mb3, .slice c3 nc3 mc3] 26) w.heap.size (by rw [e2]; omega)).trans ((Below.heap_alloc (w.alloc (.cells #[.int .i64 k1, .int .i64 h1, .string t1, .slice a1 na1 ma1, .slice b1 nb1 mb1, .slice c1 nc1 mc1] 26)) (.cells #[.slice pa l.length pc, .slice qa m.length qc] 50) w.heap.size (by rw [e1]; omega)).trans q1))
  replace q2 := (Below.heap_alloc ((w.alloc (.cells #[.int .i64 k1, .int .i64 h1, .string t1, .slice a1 na1 ma1, .slice b1 nb1 mb1, .slice c1 nc1 mc1] 26)).alloc (.cells #[.slice pa l.length pc, .slice qa m.length qc] 50)) (.cells #[.int .i64 k3, .int .i64 h3, .string t3, .slice a3 na3 ma3, .slice b3 nb3 mb3, .slice c3 nc3 mc3] 26) (w.heap.size + 1) (by rw [e2]; omega)).trans q2
  generalize hW1 : (((w.alloc (.cells #[.int .i64 k1, .int .i64 h1, .string t1, .slice a1 na1 ma1, .slice b1 nb1 mb1, .slice c1 nc1 mc1] 26)).alloc (.cells #[.slice pa l.length pc, .slice qa m.length qc] 50)).alloc (.cells #[.int .i64 k3, .int .i64 h3, .string t3, .slice a3 na3 ma3, .slice b3 nb3 mb3, .slice c3 nc3 mc3] 26)) = W1 at *
  have key : ∀ w1, Below W1.heap.size W1 w1 →
      Below w.heap.size w w1 ∧ Tabs w1 ∧ (∀ b, S b → b < w1.heap.size) ∧ VRep w1 S u1 (.agg #[.int .i64 k1, .int .i64 h1, .string t1, .slice a1 na1 ma1, .slice b1 nb1 mb1, .slice c1 nc1 mc1]) ∧ SlOf S l.length (fun b o => VCells w1 S b l o) (.slice pa l.length pc) ∧ SlOf S m.length (fun b o => VCells w1 S b m o) (.slice qa m.length qc) ∧ VRep w1 S u3 (.agg #[.int .i64 k3, .int .i64 h3, .string t3, .slice a3 na3 ma3, .slice b3 nb3 mb3, .slice c3 nc3 mc3]) ∧ Box w1 w.heap.size k1 h1 t1 (.slice a1 na1 ma1) (.slice b1 nb1 mb1) (.slice c1 nc1 mc1) ∧ w1.heap[w.heap.size + 1]? = some (.cells #[.slice pa l.length pc, .slice qa m.length qc] 50) ∧ Box w1 (w.heap.size + 2) k3 h3 t3 (.slice a3 na3 ma3) (.slice b3 nb3 mb3) (.slice c3 nc3 mc3) := fun w1 g1 => by
    have hbl : Below w.heap.size w w1 := hB.trans (g1.mono hB.size)
    exact ⟨hbl, hT.below hbl, lt_below hbl hS, VRep.keep (.of_below hbl hS) (fun _ h => h) _ _ hr1, SlOf.vkeep hp (.of_below hbl hS), SlOf.vkeep hq (.of_below hbl hS), VRep.keep (.of_below hbl hS) (fun _ h => h) _ _ hr3, (g1.block _ (by omega)).trans q1, (g1.block _ (by omega)).trans q2, (g1.block _ (by omega)).trans q3⟩
  have KEY := Lib.hid key
  have HP0 := Lib.hid (Below.refl W1.heap.size W1)
  have HZ1 := Lib.hid (fun w1 g1 => zzFits1_ok _ w1 S _ (key w1 g1).2.2.1 (key w1 g1).2.2.2.1)
  have HZ3 := Lib.hid (fun w1 g1 => zzFits1_ok _ w1 S _ (key w1 g1).2.2.1 (key w1 g1).2.2.2.2.2.2.1)
  have HZ2 := Lib.hid (fun w1 => zzFits3_ok (.slice pa l.length pc) (.slice qa m.length qc) w1)
  have CX : Hid (∀ w1, Below W1.heap.size W1 w1 → ((w1.cell? ⟨w.heap.size, 0, none⟩ = some (.int .i64 k1) ∧ w1.cell? ⟨w.heap.size, 1, none⟩ = some (.int .i64 h1) ∧ w1.cell? ⟨w.heap.size, 2, none⟩ = some (.string t1) ∧ w1.cell? ⟨w.heap.size, 3, none⟩ = some (.slice a1 na1 ma1) ∧ w1.cell? ⟨w.heap.size, 4, none⟩ = some (.slice b1 nb1 mb1) ∧ w1.cell? ⟨w.heap.size, 5, none⟩ = some (.slice c1 nc1 mc1)) ∧ (w1.cell? ⟨(w.heap.size + 1), 0, none⟩ = some (.slice pa l.length pc) ∧ w1.cell? ⟨(w.heap.size + 1), 1, none⟩ = some (.slice qa m.length qc)) ∧ (w1.cell? ⟨(w.heap.size + 1 + 1), 0, none⟩ = some (.int .i64 k3) ∧ w1.cell? ⟨(w.heap.size + 1 + 1), 1, none⟩ = some (.int .i64 h3) ∧ w1.cell? ⟨(w.heap.size + 1 + 1), 2, none⟩ = some (.string t3) ∧ w1.cell? ⟨(w.heap.size + 1 + 1), 3, none⟩ = some (.slice a3 na3 ma3) ∧ w1.cell? ⟨(w.heap.size + 1 + 1), 4, none⟩ = some (.slice b3 nb3 mb3) ∧ w1.cell? ⟨(w.heap.size + 1 + 1), 5, none⟩ = some (.slice c3 nc3 mc3)))) := Lib.hid fun w1 g1 => ⟨(key w1 g1).2.2.2.2.2.2.2.1.c, (by have := (key w1 g1).2.2.2.2.2.2.2.2.1; simp [World.cell?, this]), (key w1 g1).2.2.2.2.2.2.2.2.2.c⟩
  have HARR := Lib.hid (fun w1 => array_ok (.slice pa l.length pc) pa l.length pc w1 rfl)
  have HARQ := Lib.hid (fun w1 => array_ok (.slice qa m.length qc) qa m.length qc w1 rfl)
  have HFIT := Lib.hid (fun w1 (g1 : Below W1.heap.size W1 w1) => fits_ok [u1, V.mk 5 0 ⟨#[]⟩ l [] [], V.mk 5 0 ⟨#[]⟩ m [] [], u3] (w1.alloc (.cells #[.int .i64 k1, .int .i64 h1, .string t1, .slice a1 na1 ma1, .slice b1 nb1 mb1, .slice c1 nc1 mc1, .int .i64 5, .int .i64 0, .string ⟨#[]⟩, .slice pa l.length pc, .slice none 0 0, .slice none 0 0, .int .i64 5, .int .i64 0, .string ⟨#[]⟩, .slice qa m.length qc, .slice none 0 0, .slice none 0 0, .int .i64 k3, .int .i64 h3, .string t3, .slice a3 na3 ma3, .slice b3 nb3 mb3, .slice c3 nc3 mc3] 26)) (allB _) (some ⟨w1.heap.size, 0, none⟩) 4 ((key w1 g1).2.1.below (below1 w1 _)) (fun _ h => h) (four_sl (key w1 g1).2.2.1 (key w1 g1).2.2.2.1 (vrep_arr (key w1 g1).2.2.2.2.1) (vrep_arr (key w1 g1).2.2.2.2.2.1) (key w1 g1).2.2.2.2.2.2.1))
  have HSTR := Lib.hid (fun w1 (g1 : Below W1.heap.size W1 w1) (p : List J) (hl : l = J.toVs p) (hok : ∀ k ∈ p, k.ok) => straight_okV l p hl hok w1 S pa pc (key w1 g1).2.2.1 (key w1 g1).2.2.2.2.1)
  have HSTQ := Lib.hid (fun w1 (g1 : Below W1.heap.size W1 w1) (q : List J) (hm : m = J.toVs q) (hok : ∀ k ∈ q, k.ok) => straight_okV m q hm hok w1 S qa qc (key w1 g1).2.2.1 (key w1 g1).2.2.2.2.2.1)
  have HAPA := Lib.hid (fun w1 (g1 : Below W1.heap.size W1 w1) (p q : List J) (hl : l = J.toVs p) (hm : m = J.toVs q) (hp : ∀ k ∈ p, k.ok) (hq : ∀ k ∈ q, k.ok) => apart_okV l m p q hl hm hp hq w1 S (key w1 g1).2.2.1 pa qa pc qc (key w1 g1).2.2.2.2.1 (key w1 g1).2.2.2.2.2.1)
  have HKEY := Lib.hid (fun w1 (g1 : Below W1.heap.size W1 w1) (q : List J) (hm : m = J.toVs q) => keyed_okV m q hm w1 S qa qc (key w1 g1).2.2.2.2.2.1)
  have HS := Lib.hid (fun b (hb : S b) => hS b hb)
  have HSZ1 := Lib.hid e3
  unfold mostLen at hpn hqn
  clear key hB hr1 hr3 hp hq hT hS e1 e2 e3 q1 q2 q3
  go_enter Tryz.func8, Tryz.ntmps8
  go_upto_region 1 with fail
  try rw [hW1]
  clear hW1
  obtain ⟨⟨x0, x1, x2, x3, x4, x5⟩, ⟨y0, y1⟩, ⟨z0, z1, z2, z3, z4, z5⟩⟩ := CX.out _ HP0.out
  go_upto_region 3 with (first
    | (go_at_call 10; (with_reducible refine (HZ1.out _ HP0.out).mono ?_); rintro e w2 ⟨q2, rfl, hx⟩; have HP2 := Lib.hid (HP0.out.trans (hx.mono HP0.out.size)); clear hx x0 x1 x2 x3 x4 x5 y0 y1 z0 z1 z2 z3 z4 z5; obtain ⟨⟨x0, x1, x2, x3, x4, x5⟩, ⟨y0, y1⟩, ⟨z0, z1, z2, z3, z4, z5⟩⟩ := CX.out _ HP2.out; cases q2)
    | (go_at_call 34; (with_reducible refine (HZ2.out _).mono ?_); rintro e w3 ⟨rfl, hx⟩; have HP3 := Lib.hid (HP2.out.trans (hx.mono HP2.out.size)); clear hx x0 x1 x2 x3 x4 x5 y0 y1 z0 z1 z2 z3 z4 z5; obtain ⟨⟨x0, x1, x2, x3, x4, x5⟩, ⟨y0, y1⟩, ⟨z0, z1, z2, z3, z4, z5⟩⟩ := CX.out _ HP3.out)
    | (go_at_call 10; (with_reducible refine (HZ3.out _ HP3.out).mono ?_); rintro e w4 ⟨q4, rfl, hx⟩; have HP4 := Lib.hid (HP3.out.trans (hx.mono HP3.out.size)); clear hx x0 x1 x2 x3 x4 x5 y0 y1 z0 z1 z2 z3 z4 z5; obtain ⟨⟨x0, x1, x2, x3, x4, x5⟩, ⟨y0, y1⟩, ⟨z0, z1, z2, z3, z4, z5⟩⟩ := CX.out _ HP4.out; cases q4))
  all_goals first
    | exact bodyPost_ret (v := .bool true) (by simp [results, Tryz.results8, go_sem]) rfl ⟨rfl, (KEY.out _ HP4.out).1⟩
    | exact bodyPost_ret (v := .bool true) (by simp [results, Tryz.results8, go_sem]) rfl ⟨rfl, (KEY.out _ HP2.out).1⟩
    | skip
  clear x0 x1 x2 x3 x4 x5 y0 y1 z0 z1 z2 z3 z4 z5
  have HP5 := Lib.hid HP4.out.drew
  obtain ⟨⟨x0, x1, x2, x3, x4, x5⟩, ⟨y0, y1⟩, ⟨z0, z1, z2, z3, z4, z5⟩⟩ := CX.out _ HP5.out
  go_region_held3 (fun w1 => w1.cell? ⟨(w.heap.size + 1), 0, none⟩ = some (.slice pa l.length pc) ∧ w1.cell? ⟨(w.heap.size + 1), 1, none⟩ = some (.slice qa m.length qc))
    (with_reducible exact (CX.out _ HP5.out).2.1)
    (fail)
  clear x0 x1 x2 x3 x4 x5 y0 y1 z0 z1 z2 z3 z4 z5
  go_upto_region 4 with fail
  have HP6 := Lib.hid HP5.out.drew
  go_cut [59] (fun b wx => ∃ q : Bool, b = .bool q ∧ Below W1.heap.size W1 wx ∧ (q = false → ∃ (x : J) (p q : List J) (b : J), x.fit ∧ u1 = x.toV ∧ (J.arr p).fit ∧ l = J.toVs p ∧ (J.arr q).fit ∧ m = J.toVs q ∧ b.fit ∧ u3 = b.toV ∧ (p.length ≤ 20 ∧ ∀ k ∈ p, keyOk k) ∧ (q.length ≤ 20 ∧ ∀ k ∈ q, keyOk k) ∧ apartJ p q ∧ keyedJ q))
  case first =>
    refine wp_region_S (fun i => decide (6 ≤ i)) (fun w1 => ((w1.cell? ⟨w.heap.size, 0, none⟩ = some (.int .i64 k1) ∧ w1.cell? ⟨w.heap.size, 1, none⟩ = some (.int .i64 h1) ∧ w1.cell? ⟨w.heap.size, 2, none⟩ = some (.string t1) ∧ w1.cell? ⟨w.heap.size, 3, none⟩ = some (.slice a1 na1 ma1) ∧ w1.cell? ⟨w.heap.size, 4, none⟩ = some (.slice b1 nb1 mb1) ∧ w1.cell? ⟨w.heap.size, 5, none⟩ = some (.slice c1 nc1 mc1)) ∧ (w1.cell? ⟨(w.heap.size + 1), 0, none⟩ = some (.slice pa l.length pc) ∧ w1.cell? ⟨(w.heap.size + 1), 1, none⟩ = some (.slice qa m.length qc)) ∧ (w1.cell? ⟨(w.heap.size + 1 + 1), 0, none⟩ = some (.int .i64 k3) ∧ w1.cell? ⟨(w.heap.size + 1 + 1), 1, none⟩ = some (.int .i64 h3) ∧ w1.cell? ⟨(w.heap.size + 1 + 1), 2, none⟩ = some (.string t3) ∧ w1.cell? ⟨(w.heap.size + 1 + 1), 3, none⟩ = some (.slice a3 na3 ma3) ∧ w1.cell? ⟨(w.heap.size + 1 + 1), 4, none⟩ = some (.slice b3 nb3 mb3) ∧ w1.cell? ⟨(w.heap.size + 1 + 1), 5, none⟩ = some (.slice c3 nc3 mc3)))) (fun _ => True) (by as_aux_lemma => kernel_rfl) ?_
    refine wpAnyS_takeU 0 ⟨some 30, .load 26 (.tmp 3), 26, _, _, none⟩ (v := ?_) rfl (by as_aux_lemma => kernel_rfl) (by as_aux_lemma => kernel_rfl) (by as_aux_lemma => kernel_rfl) (by as_aux_lemma => kernel_rfl) (by as_aux_lemma => kernel_rfl) (fun _ _ _ h => h) (Or.inl ⟨by rfl, ?_⟩) ⟨trivial, CX.out _ HP6.out⟩ ?_
    rotate_left
    · (intro x hx; obtain ⟨-, ⟨x0, x1, x2, x3, x4, x5⟩, ⟨y0, y1⟩, ⟨z0, z1, z2, z3, z4, z5⟩⟩ := hx; go_simp; try with_reducible rfl)
    try simp only [Act.put, List.setIfInBounds_toArray, List.set_cons_zero, List.set_cons_succ]
    refine wpAnyS_takeU 1 ⟨some 31, .move (.tmp 7), 23, _, _, none⟩ (v := ?_) rfl (by as_aux_lemma => kernel_rfl) (by as_aux_lemma => kernel_rfl) (by as_aux_lemma => kernel_rfl) (by as_aux_lemma => kernel_rfl) (by as_aux_lemma => kernel_rfl) (fun _ _ _ h => h) (Or.inl ⟨by rfl, ?_⟩) ⟨trivial, CX.out _ HP6.out⟩ ?_
    rotate_left
    · (intro x hx; clear hx; go_simp; try with_reducible rfl)
    try simp only [Act.put, List.setIfInBounds_toArray, List.set_cons_zero, List.set_cons_succ]
    refine wpAnyS_takeU 3 ⟨some 33, .move (.tmp 8), 23, _, _, none⟩ (v := ?_) rfl (by as_aux_lemma => kernel_rfl) (by as_aux_lemma => kernel_rfl) (by as_aux_lemma => kernel_rfl) (by as_aux_lemma => kernel_rfl) (by as_aux_lemma => kernel_rfl) (fun _ _ _ h => h) (Or.inl ⟨by rfl, ?_⟩) ⟨trivial, CX.out _ HP6.out⟩ ?_
    rotate_left
    · (intro x hx; clear hx; go_simp; try with_reducible rfl)
    try simp only [Act.put, List.setIfInBounds_toArray, List.set_cons_zero, List.set_cons_succ]
    refine wpAnyS_takeU 5 ⟨some 35, .load 26 (.tmp 5), 26, _, _, none⟩ (v := ?_) rfl (by as_aux_lemma => kernel_rfl) (by as_aux_lemma => kernel_rfl) (by as_aux_lemma => kernel_rfl) (by as_aux_lemma => kernel_rfl) (by as_aux_lemma => kernel_rfl) (fun _ _ _ h => h) (Or.inl ⟨by rfl, ?_⟩) ⟨trivial, CX.out _ HP6.out⟩ ?_
    rotate_left
    · (intro x hx; obtain ⟨-, ⟨x0, x1, x2, x3, x4, x5⟩, ⟨y0, y1⟩, ⟨z0, z1, z2, z3, z4, z5⟩⟩ := hx; go_simp; try with_reducible rfl)
    try simp only [Act.put, List.setIfInBounds_toArray, List.set_cons_zero, List.set_cons_succ]
    refine wpAnyS_ready [2] (by as_aux_lemma => kernel_rfl) (by simp) ?_
    refine AllReadyS.cons ⟨some 32, .call { callee := .value (.func 12), args := #[.tmp 31], argTypes := #[23] }, 26, _, _, none⟩ rfl (fun K hK => ?_) AllReadyS.nil
    go_simp
    go_at_call 12
    refine (HARR.out _).mono ?_
    rintro e w7 ⟨rfl, hx⟩
    have HP7 := Lib.hid (HP6.out.trans (hx.mono HP6.out.size))
    clear hx
    try go_simp
    refine hK _ _ trivial (fun _ _ => CX.out _ HP7.out) ?_
    clear hK K
    try simp only [Act.put, List.setIfInBounds_toArray, List.set_cons_zero, List.set_cons_succ]
    refine wpAnyS_ready [4] (by as_aux_lemma => kernel_rfl) (by simp) ?_
    refine AllReadyS.cons ⟨some 34, .call { callee := .value (.func 12), args := #[.tmp 33], argTypes := #[23] }, 26, _, _, none⟩ rfl (fun K hK => ?_) AllReadyS.nil
    go_simp
    go_at_call 12
    refine (HARQ.out _).mono ?_
    rintro e w8 ⟨rfl, hx⟩
    have HP8 := Lib.hid (HP7.out.trans (hx.mono HP7.out.size))
    clear hx
    try go_simp
    refine hK _ _ trivial (fun _ _ => CX.out _ HP8.out) ?_
    clear hK K
    try simp only [Act.put, List.setIfInBounds_toArray, List.set_cons_zero, List.set_cons_succ]
    refine wpAnyS_restM 6 (fun _ => trivial) (by as_aux_lemma => kernel_rfl) (fun _ d _ _ _ h => by cases d <;> exact h) rfl (by as_aux_lemma => kernel_rfl) (by as_aux_lemma => kernel_rfl) ?_
    simp only [List.drop_succ_cons, List.drop_zero]
    have HP9 := Lib.hid (HP8.out.alloc HP8.out.size (.cells #[.int .i64 k1, .int .i64 h1, .string t1, .slice a1 na1 ma1, .slice b1 nb1 mb1, .slice c1 nc1 mc1, .int .i64 5, .int .i64 0, .string ⟨#[]⟩, .slice pa l.length pc, .slice none 0 0, .slice none 0 0, .int .i64 5, .int .i64 0, .string ⟨#[]⟩, .slice qa m.length qc, .slice none 0 0, .slice none 0 0, .int .i64 k3, .int .i64 h3, .string t3, .slice a3 na3 ma3, .slice b3 nb3 mb3, .slice c3 nc3 mc3] 26))
    go_wp2_with (first
      | (go_at_call 11; refine (HFIT.out _ HP8.out).mono ?_; rintro e w10 ⟨q10, rfl, hx, hi⟩; have HP10 := Lib.hid (HP9.out.trans (hx.mono HP9.out.size)); have HI10 := Lib.hid hi; clear hx hi; cases q10)
      | (go_at_call 13; obtain ⟨x, p, q, b, hx, hu, hpf, hl, hqf, hm, hb, hu3⟩ := fit_sd (HI10.out (by trivial)); with_reducible refine (HSTR.out _ HP10.out p hl (arr_fit_ok hpf)).mono ?_; rintro e w11 ⟨q11, rfl, hx11, hi11⟩; have HP11 := Lib.hid (HP10.out.trans (hx11.mono HP10.out.size)); have HI11 := Lib.hid hi11; have HX := Lib.hid (And.intro hx hu); have HPF := Lib.hid hpf; have HL := Lib.hid hl; have HQF := Lib.hid hqf; have HM := Lib.hid hm; have HBB := Lib.hid (And.intro hb hu3); clear hx hu hpf hl hqf hm hx11 hi11 hb hu3; cases q11)
      | (go_at_call 13; with_reducible refine (HSTQ.out _ HP11.out q HM.out (arr_fit_ok HQF.out)).mono ?_; rintro e w12 ⟨q12, rfl, hx12, hi12⟩; have HP12 := Lib.hid (HP11.out.trans (hx12.mono HP11.out.size)); have HI12 := Lib.hid hi12; clear hx12 hi12; cases q12)
      | (go_at_call 35; with_reducible refine (HAPA.out _ HP12.out p q HL.out HM.out (arr_fit_ok HPF.out) (arr_fit_ok HQF.out)).mono ?_; rintro e w13 ⟨q13, rfl, hx13, hi13⟩; have HP13 := Lib.hid (HP12.out.trans (hx13.mono HP12.out.size)); have HI13 := Lib.hid hi13; clear hx13 hi13; cases q13)
      | (go_at_call 36; with_reducible refine (HKEY.out _ HP13.out q HM.out).mono ?_; rintro e w14 ⟨q14, rfl, hx14, hi14⟩; have HP14 := Lib.hid (HP13.out.trans (hx14.mono HP13.out.size)); have HI14 := Lib.hid hi14; clear hx14 hi14; cases q14))
    all_goals go_meet
    · exact ⟨true, rfl, HP10.out, fun h => by cases h⟩
    · exact ⟨true, rfl, HP11.out, fun h => by cases h⟩
    · exact ⟨true, rfl, HP12.out, fun h => by cases h⟩
    · exact ⟨true, rfl, HP13.out, fun h => by cases h⟩
    · exact ⟨true, rfl, HP14.out, fun h => by cases h⟩
    · exact ⟨false, rfl, HP14.out, fun _ => ⟨x, p, q, b, HX.out.1, HX.out.2, HPF.out, HL.out, HQF.out, HM.out, HBB.out.1, HBB.out.2, HI11.out (by trivial), HI12.out (by trivial), HI13.out (by trivial), HI14.out (by trivial)⟩⟩
  case rest =>
    obtain ⟨q, rfl, hbw, hq⟩ := hcut
    have HPW := Lib.hid hbw
    have HQ := Lib.hid hq
    clear hbw hq HP6 HP5 HP2 HP3 HP4 HFIT HSTR HSTQ HAPA HKEY HZ1 HZ2 HZ3
    cases q
    rotate_left
    · go_wp2_with fail
      exact bodyPost_ret (v := .bool true) (by simp [results, Tryz.results8, go_sem]) rfl ⟨rfl, (KEY.out _ HPW.out).1⟩
    obtain ⟨x, p, q, b, hxf, hu, hpf, hl, hqf, hm, hbf, hu3, hp20, hq20, hap, hke⟩ := HQ.out (by trivial)
    have hJ1 := jrep_of hu (KEY.out _ HPW.out).2.2.2.1
    obtain ⟨b1x, d1x, b2x, d2x, b3x, d3x, e0, e1, e2, e3, e4, e5⟩ := hJ1.cells6
    simp only [Value.int.injEq, Value.string.injEq, Value.slice.injEq, true_and] at e0 e1 e2 e3 e4 e5
    obtain rfl := e0; obtain rfl := e1; obtain rfl := e2
    obtain ⟨rfl, rfl, rfl⟩ := e3; obtain ⟨rfl, rfl, rfl⟩ := e4; obtain ⟨rfl, rfl, rfl⟩ := e5
    have hJ3 := jrep_of hu3 (KEY.out _ HPW.out).2.2.2.2.2.2.1
    obtain ⟨b1x, d1x, b2x, d2x, b3x, d3x, e0, e1, e2, e3, e4, e5⟩ := hJ3.cells6
    simp only [Value.int.injEq, Value.string.injEq, Value.slice.injEq, true_and] at e0 e1 e2 e3 e4 e5
    obtain rfl := e0; obtain rfl := e1; obtain rfl := e2
    obtain ⟨rfl, rfl, rfl⟩ := e3; obtain ⟨rfl, rfl, rfl⟩ := e4; obtain ⟨rfl, rfl, rfl⟩ := e5
    have HFX := Lib.hid hxf
    have HFP := Lib.hid (And.intro hpf (And.intro hp20.1 hp20.2))
    have HFQ := Lib.hid (And.intro hqf (And.intro hq20.1 (And.intro hq20.2 hke)))
    have HFB := Lib.hid hbf
    have HAP := Lib.hid hap
    have HU := Lib.hid (And.intro hu (And.intro hl (And.intro hm hu3)))
    clear hJ1 hJ3 hxf hpf hqf hbf hp20 hq20 hap hke hu hl hm hu3 HQ
    have KJ : Hid (∀ w1, Below wc.heap.size wc w1 → Below W1.heap.size W1 w1 ∧ JRep w1 (allB w1) x (.agg #[.int .i64 x.kind, .int .i64 x.half, .string x.text, .slice a1 x.list.length ma1, .slice b1 x.keys.length mb1, .slice c1 x.vals.length mc1]) ∧ JRep w1 (allB w1) (.arr p) (.agg #[.int .i64 5, .int .i64 0, .string ⟨#[]⟩, .slice pa l.length pc, .slice none 0 0, .slice none 0 0]) ∧ JRep w1 (allB w1) (.arr q) (.agg #[.int .i64 5, .int .i64 0, .string ⟨#[]⟩, .slice qa m.length qc, .slice none 0 0, .slice none 0 0]) ∧ JRep w1 (allB w1) b (.agg #[.int .i64 b.kind, .int .i64 b.half, .string b.text, .slice a3 b.list.length ma3, .slice b3 b.keys.length mb3, .slice c3 b.vals.length mc3])) := Lib.hid (fun w1 h1 => by
      have hb := HPW.out.trans (h1.mono HPW.out.size)
      have hk := KEY.out w1 hb
      have hs : ∀ b, S b → allB w1 b := hk.2.2.1
      refine ⟨hb, (jrep_of HU.out.1 hk.2.2.2.1).keep (fun _ _ => rfl) hs, ?_, ?_, (jrep_of HU.out.2.2.2 hk.2.2.2.2.2.2.1).keep (fun _ _ => rfl) hs⟩
      · have := vrep_arr hk.2.2.2.2.1
        rw [HU.out.2.1] at this ⊢
        exact JRep.keep (x := .arr p) this (fun _ _ => rfl) hs
      · have := vrep_arr hk.2.2.2.2.2.1
        rw [HU.out.2.2.1] at this ⊢
        exact JRep.keep (x := .arr q) this (fun _ _ => rfl) hs)
    have CXK : Hid (∀ w1, Below wc.heap.size wc w1 → ((w1.cell? ⟨w.heap.size, 0, none⟩ = some (.int .i64 x.kind) ∧ w1.cell? ⟨w.heap.size, 1, none⟩ = some (.int .i64 x.half) ∧ w1.cell? ⟨w.heap.size, 2, none⟩ = some (.string x.text) ∧ w1.cell? ⟨w.heap.size, 3, none⟩ = some (.slice a1 x.list.length ma1) ∧ w1.cell? ⟨w.heap.size, 4, none⟩ = some (.slice b1 x.keys.length mb1) ∧ w1.cell? ⟨w.heap.size, 5, none⟩ = some (.slice c1 x.vals.length mc1)) ∧ (w1.cell? ⟨(w.heap.size + 1), 0, none⟩ = some (.slice pa l.length pc) ∧ w1.cell? ⟨(w.heap.size + 1), 1, none⟩ = some (.slice qa m.length qc)) ∧ (w1.cell? ⟨(w.heap.size + 1 + 1), 0, none⟩ = some (.int .i64 b.kind) ∧ w1.cell? ⟨(w.heap.size + 1 + 1), 1, none⟩ = some (.int .i64 b.half) ∧ w1.cell? ⟨(w.heap.size + 1 + 1), 2, none⟩ = some (.string b.text) ∧ w1.cell? ⟨(w.heap.size + 1 + 1), 3, none⟩ = some (.slice a3 b.list.length ma3) ∧ w1.cell? ⟨(w.heap.size + 1 + 1), 4, none⟩ = some (.slice b3 b.keys.length mb3) ∧ w1.cell? ⟨(w.heap.size + 1 + 1), 5, none⟩ = some (.slice c3 b.vals.length mc3)))) := Lib.hid fun w1 h1 => CX.out w1 (KJ.out w1 h1).1
    have HKP : Hid (∀ k ∈ p, keyOk k ∧ k.okn 2000) := Lib.hid (fun k hk => ⟨HFP.out.2.2 k hk, (oksn_iff _ _).1 HFP.out.1.2 k hk⟩)
    have HSR : Hid (∀ r, setJ x p b = some r → r.okn 2001) := Lib.hid (fun r hr => setJ_okn (n := 2000) (Nat.le_refl _) p x b r HKP.out HFX.out (okn_mono (by omega) _ HFB.out) hr)
    have HSS : Hid (∀ s, delJ x q = some s → s.okn 2001) := Lib.hid (fun s hs => delJ_okn q x s HFX.out hs)
    have HSP := Lib.hid (fun w1 (h1 : Below wc.heap.size wc w1) => SetPath_use x b p (fit_ok HFX.out) HFP.out.1 HFP.out.2.2 (fit_ok HFB.out) (fun r hr => sz_of_ok r (okn_ok (n := 2001) (by unfold lim; omega) r (HSR.out r hr))) w1 (allB w1) (fun _ h => h) _ _ _ (KJ.out w1 h1).2.1 (KJ.out w1 h1).2.2.1 (KJ.out w1 h1).2.2.2.2)
    have HDP := Lib.hid (fun w1 (h1 : Below wc.heap.size wc w1) (vb : Value) (hvb : JX w1 none none (.arr [.arr q]) vb) => DelPaths_use x q (fit_ok HFX.out) HFQ.out.1 HFQ.out.2.2.1 HFQ.out.2.2.2 (fun r hr => sz_of_ok r (okn_ok (n := 2001) (by unfold lim; omega) r (HSS.out r hr))) w1 (allB w1) (fun _ h => h) (.agg #[.int .i64 x.kind, .int .i64 x.half, .string x.text, .slice a1 x.list.length ma1, .slice b1 x.keys.length mb1, .slice c1 x.vals.length mc1]) vb (KJ.out w1 h1).2.1 (by obtain ⟨So, h1, h2, _⟩ := hvb; exact h1.keep (fun _ _ => rfl) h2))
    have HONE := Lib.hid (fun w1 => one_ok qa m.length qc w1)
    have HOR : Hid (∀ w1 B, Below wc.heap.size wc w1 → w1.heap[B]? = some (.cells #[.int .i64 5, .int .i64 0, .string ⟨#[]⟩, .slice qa m.length qc, .slice none 0 0, .slice none 0 0] 26) → JX w1 none none (.arr [.arr q]) (.agg #[.int .i64 5, .int .i64 0, .string ⟨#[]⟩, .slice (some ⟨B, 0, none⟩) 1 1, .slice none 0 0, .slice none 0 0])) := Lib.hid (fun w1 B h1 hb => one_repV HU.out.2.2.1 hb (KJ.out w1 h1).2.2.2.1)
    go_upto_region 6 with fail
    go_cut [9, 10] (fun v9 v10 wx => ∃ (B9 B10 : Nat) (r s : J) (qr1 : Option Addr) (qr1n : Nat) (qr2 : Option Addr) (qr2n : Nat) (qr3 : Option Addr) (qr3n : Nat) (qs1 : Option Addr) (qs1n : Nat) (qs2 : Option Addr) (qs2n : Nat) (qs3 : Option Addr) (qs3n : Nat) (er es : Int), v9 = .pointer (some ⟨B9, 0, none⟩) ∧ v10 = .pointer (some ⟨B10, 0, none⟩) ∧ Below wc.heap.size wc wx ∧ Box7 wx B9 r.kind r.half r.text (.slice qr1 r.list.length qr1n) (.slice qr2 r.keys.length qr2n) (.slice qr3 r.vals.length qr3n) er ∧ Box7 wx B10 s.kind s.half s.text (.slice qs1 s.list.length qs1n) (.slice qs2 s.keys.length qs2n) (.slice qs3 s.vals.length qs3n) es ∧ JRep wx (allB wx) r (.agg #[.int .i64 r.kind, .int .i64 r.half, .string r.text, .slice qr1 r.list.length qr1n, .slice qr2 r.keys.length qr2n, .slice qr3 r.vals.length qr3n]) ∧ JRep wx (allB wx) s (.agg #[.int .i64 s.kind, .int .i64 s.half, .string s.text, .slice qs1 s.list.length qs1n, .slice qs2 s.keys.length qs2n, .slice qs3 s.vals.length qs3n]) ∧ ResIs (setJ x p b) r er ∧ ResIs (delJ x q) s es)
    case first =>
      refine wp_region_S (fun i => decide (11 ≤ i)) (fun w1 => ((w1.cell? ⟨w.heap.size, 0, none⟩ = some (.int .i64 x.kind) ∧ w1.cell? ⟨w.heap.size, 1, none⟩ = some (.int .i64 x.half) ∧ w1.cell? ⟨w.heap.size, 2, none⟩ = some (.string x.text) ∧ w1.cell? ⟨w.heap.size, 3, none⟩ = some (.slice a1 x.list.length ma1) ∧ w1.cell? ⟨w.heap.size, 4, none⟩ = some (.slice b1 x.keys.length mb1) ∧ w1.cell? ⟨w.heap.size, 5, none⟩ = some (.slice c1 x.vals.length mc1)) ∧ (w1.cell? ⟨(w.heap.size + 1), 0, none⟩ = some (.slice pa l.length pc) ∧ w1.cell? ⟨(w.heap.size + 1), 1, none⟩ = some (.slice qa m.length qc)) ∧ (w1.cell? ⟨(w.heap.size + 1 + 1), 0, none⟩ = some (.int .i64 b.kind) ∧ w1.cell? ⟨(w.heap.size + 1 + 1), 1, none⟩ = some (.int .i64 b.half) ∧ w1.cell? ⟨(w.heap.size + 1 + 1), 2, none⟩ = some (.string b.text) ∧ w1.cell? ⟨(w.heap.size + 1 + 1), 3, none⟩ = some (.slice a3 b.list.length ma3) ∧ w1.cell? ⟨(w.heap.size + 1 + 1), 4, none⟩ = some (.slice b3 b.keys.length mb3) ∧ w1.cell? ⟨(w.heap.size + 1 + 1), 5, none⟩ = some (.slice c3 b.vals.length mc3)))) (fun _ => True) (by as_aux_lemma => kernel_rfl) ?_
      have HSt := Lib.hid (St.start wc)
      generalize wc.drew = v0 at *
      refine wpAnyS_takeU 0 ⟨some 60, .load 26 (.tmp 3), 26, _, _, none⟩ (v := ?_) rfl (by as_aux_lemma => kernel_rfl) (by as_aux_lemma => kernel_rfl) (by as_aux_lemma => kernel_rfl) (by as_aux_lemma => kernel_rfl) (by as_aux_lemma => kernel_rfl) (fun _ _ _ h => h) (Or.inl ⟨by rfl, ?_⟩) ⟨trivial, CXK.out _ HSt.out.1⟩ ?_
      rotate_left
      · (intro x hx; obtain ⟨-, ⟨x0, x1, x2, x3, x4, x5⟩, ⟨y0, y1⟩, ⟨z0, z1, z2, z3, z4, z5⟩⟩ := hx; go_simp; try with_reducible rfl)
      try simp only [Act.put, List.setIfInBounds_toArray, List.set_cons_zero, List.set_cons_succ]
      refine wpAnyS_takeU 1 ⟨some 61, .move (.tmp 7), 23, _, _, none⟩ (v := ?_) rfl (by as_aux_lemma => kernel_rfl) (by as_aux_lemma => kernel_rfl) (by as_aux_lemma => kernel_rfl) (by as_aux_lemma => kernel_rfl) (by as_aux_lemma => kernel_rfl) (fun _ _ _ h => h) (Or.inl ⟨by rfl, ?_⟩) ⟨trivial, CXK.out _ HSt.out.1⟩ ?_
      rotate_left
      · (intro x hx; clear hx; go_simp; try with_reducible rfl)
      try simp only [Act.put, List.setIfInBounds_toArray, List.set_cons_zero, List.set_cons_succ]
      refine wpAnyS_takeU 3 ⟨some 63, .load 26 (.tmp 5), 26, _, _, none⟩ (v := ?_) rfl (by as_aux_lemma => kernel_rfl) (by as_aux_lemma => kernel_rfl) (by as_aux_lemma => kernel_rfl) (by as_aux_lemma => kernel_rfl) (by as_aux_lemma => kernel_rfl) (fun _ _ _ h => h) (Or.inl ⟨by rfl, ?_⟩) ⟨trivial, CXK.out _ HSt.out.1⟩ ?_
      rotate_left
      · (intro x hx; obtain ⟨-, ⟨x0, x1, x2, x3, x4, x5⟩, ⟨y0, y1⟩, ⟨z0, z1, z2, z3, z4, z5⟩⟩ := hx; go_simp; try with_reducible rfl)
      try simp only [Act.put, List.setIfInBounds_toArray, List.set_cons_zero, List.set_cons_succ]
      refine wpAnyS_takeU 5 ⟨some 65, .load 26 (.tmp 3), 26, _, _, none⟩ (v := ?_) rfl (by as_aux_lemma => kernel_rfl) (by as_aux_lemma => kernel_rfl) (by as_aux_lemma => kernel_rfl) (by as_aux_lemma => kernel_rfl) (by as_aux_lemma => kernel_rfl) (fun _ _ _ h => h) (Or.inl ⟨by rfl, ?_⟩) ⟨trivial, CXK.out _ HSt.out.1⟩ ?_
      rotate_left
      · (intro x hx; obtain ⟨-, ⟨x0, x1, x2, x3, x4, x5⟩, ⟨y0, y1⟩, ⟨z0, z1, z2, z3, z4, z5⟩⟩ := hx; go_simp; try with_reducible rfl)
      try simp only [Act.put, List.setIfInBounds_toArray, List.set_cons_zero, List.set_cons_succ]
      refine wpAnyS_takeU 6 ⟨some 66, .move (.tmp 8), 23, _, _, none⟩ (v := ?_) rfl (by as_aux_lemma => kernel_rfl) (by as_aux_lemma => kernel_rfl) (by as_aux_lemma => kernel_rfl) (by as_aux_lemma => kernel_rfl) (by as_aux_lemma => kernel_rfl) (fun _ _ _ h => h) (Or.inl ⟨by rfl, ?_⟩) ⟨trivial, CXK.out _ HSt.out.1⟩ ?_
      rotate_left
      · (intro x hx; clear hx; go_simp; try with_reducible rfl)
      try simp only [Act.put, List.setIfInBounds_toArray, List.set_cons_zero, List.set_cons_succ]
      refine wpAnyS_named ?_
      intro F a0 hF ha0
      have HF := Lib.hid hF
      have HA0 := Lib.hid ha0
      clear hF ha0
      have N411 : Hid (∀ (v : World) (B1 : Nat) (B2 : Nat) (r : J) (qr1 : Option Addr) (qr1n : Nat) (qr2 : Option Addr) (qr2n : Nat) (qr3 : Option Addr) (qr3n : Nat) (er : Int) (s : J) (qs1 : Option Addr) (qs1n : Nat) (qs2 : Option Addr) (qs2n : Nat) (qs3 : Option Addr) (qs3n : Nat) (es : Int) (Bo : Nat), St wc v (some B1) (some B2) (some (r, (.agg #[.int .i64 r.kind, .int .i64 r.half, .string r.text, .slice qr1 r.list.length qr1n, .slice qr2 r.keys.length qr2n, .slice qr3 r.vals.length qr3n]))) (some (s, (.agg #[.int .i64 s.kind, .int .i64 s.half, .string s.text, .slice qs1 s.list.length qs1n, .slice qs2 s.keys.length qs2n, .slice qs3 s.vals.length qs3n]))) → ResIs (setJ x p b) r er → ResIs (delJ x q) s es → F 2 #[true, true, true, true, true, true, true, true, true, true, true, false, false] ((((((a0.put (some 62) (.agg #[.int .i64 5, .int .i64 0, .string ⟨#[]⟩, .slice pa l.length pc, .slice none 0 0, .slice none 0 0])).put (some 64) (.agg #[.int .i64 r.kind, .int .i64 r.half, .string r.text, .slice qr1 r.list.length qr1n, .slice qr2 r.keys.length qr2n, .slice qr3 r.vals.length qr3n, .int .i64 er])).put (some 67) (.agg #[.int .i64 5, .int .i64 0, .string ⟨#[]⟩, .slice (some ⟨Bo, 0, none⟩) 1 1, .slice none 0 0, .slice none 0 0])).put (some 68) (.agg #[.int .i64 s.kind, .int .i64 s.half, .string s.text, .slice qs1 s.list.length qs1n, .slice qs2 s.keys.length qs2n, .slice qs3 s.vals.length qs3n, .int .i64 es])).put (some 9) (.pointer (some ⟨B1, 0, none⟩))).put (some 10) (.pointer (some ⟨B2, 0, none⟩))) v) := Lib.hid (by
        intro v B1 B2 r qr1 qr1n qr2 qr2n qr3 qr3n er s qs1 qs1n qs2 qs2n qs3 qs3n es Bo hSt hr_r hr_s
        have HSt := Lib.hid hSt
        have HRr := Lib.hid hr_r
        have HRs := Lib.hid hr_s
        clear hSt hr_r hr_s
        rw [HF.out, HA0.out]
        try simp only [Act.put, List.setIfInBounds_toArray, List.set_cons_zero, List.set_cons_succ]
        skip
        refine wpAnyS_rest 11 (fun _ => trivial) rfl (by as_aux_lemma => kernel_rfl) (by as_aux_lemma => kernel_rfl) ?_
        simp only [List.drop_succ_cons, List.drop_zero]
        have hc := HSt.out.cells
        obtain ⟨r0, r1, r2, r3, r4, r5, r6⟩ := hc.1.c
        have rf := hc.1.f
        have hc2 := hc.2 (.int .i64 r.kind) (.int .i64 r.half) (.string r.text) (.slice qr1 r.list.length qr1n) (.slice qr2 r.keys.length qr2n) (.slice qr3 r.vals.length qr3n) (.int .i64 er)
        obtain ⟨s0, s1, s2, s3, s4, s5, s6⟩ := hc2.c
        have sf := hc2.f
        unfold set7 set6 at s0 s1 s2 s3 s4 s5 s6 sf
        clear hc hc2
        go_wp2_with fail
        go_meet
        have hf := St.fin er es HSt.out rfl
        exact ⟨_, _, r, s, qr1, qr1n, qr2, qr2n, qr3, qr3n, qs1, qs1n, qs2, qs2n, qs3, qs3n, er, es, rfl, rfl, hf.1, hf.2.1, hf.2.2.1, hf.2.2.2.1, hf.2.2.2.2, HRr.out, HRs.out⟩)
      have N410 : Hid (∀ (v : World) (B1 : Nat) (r : J) (qr1 : Option Addr) (qr1n : Nat) (qr2 : Option Addr) (qr2n : Nat) (qr3 : Option Addr) (qr3n : Nat) (er : Int) (s : J) (qs1 : Option Addr) (qs1n : Nat) (qs2 : Option Addr) (qs2n : Nat) (qs3 : Option Addr) (qs3n : Nat) (es : Int) (Bo : Nat), St wc v (some B1) none (some (r, (.agg #[.int .i64 r.kind, .int .i64 r.half, .string r.text, .slice qr1 r.list.length qr1n, .slice qr2 r.keys.length qr2n, .slice qr3 r.vals.length qr3n]))) (some (s, (.agg #[.int .i64 s.kind, .int .i64 s.half, .string s.text, .slice qs1 s.list.length qs1n, .slice qs2 s.keys.length qs2n, .slice qs3 s.vals.length qs3n]))) → ResIs (setJ x p b) r er → ResIs (delJ x q) s es → F 3 #[true, true, true, true, true, true, true, true, true, true, false, false, false] (((((a0.put (some 62) (.agg #[.int .i64 5, .int .i64 0, .string ⟨#[]⟩, .slice pa l.length pc, .slice none 0 0, .slice none 0 0])).put (some 64) (.agg #[.int .i64 r.kind, .int .i64 r.half, .string r.text, .slice qr1 r.list.length qr1n, .slice qr2 r.keys.length qr2n, .slice qr3 r.vals.length qr3n, .int .i64 er])).put (some 67) (.agg #[.int .i64 5, .int .i64 0, .string ⟨#[]⟩, .slice (some ⟨Bo, 0, none⟩) 1 1, .slice none 0 0, .slice none 0 0])).put (some 68) (.agg #[.int .i64 s.kind, .int .i64 s.half, .string s.text, .slice qs1 s.list.length qs1n, .slice qs2 s.keys.length qs2n, .slice qs3 s.vals.length qs3n, .int .i64 es])).put (some 9) (.pointer (some ⟨B1, 0, none⟩))) v) := Lib.hid (by
        intro v B1 r qr1 qr1n qr2 qr2n qr3 qr3n er s qs1 qs1n qs2 qs2n qs3 qs3n es Bo hSt hr_r hr_s
        have HSt := Lib.hid hSt
        have HRr := Lib.hid hr_r
        have HRs := Lib.hid hr_s
        clear hSt hr_r hr_s
        rw [HF.out, HA0.out]
        try simp only [Act.put, List.setIfInBounds_toArray, List.set_cons_zero, List.set_cons_succ]
        skip
        refine wpAnyS_ready [10] (by as_aux_lemma => kernel_rfl) (by simp) ?_
        refine AllReadyS.cons ⟨some 10, .alloc 35, 0, _, _, none⟩ rfl (fun K hK => ?_) AllReadyS.nil
        go_simp
        replace HSt := Lib.hid (HSt.out.alloc10)
        refine hK _ _ trivial (fun _ _ => CXK.out _ HSt.out.1) ?_
        clear hK K
        try simp only [Act.put, List.setIfInBounds_toArray, List.set_cons_zero, List.set_cons_succ]
        have c := N411.out _ _ _ r qr1 qr1n qr2 qr2n qr3 qr3n er s qs1 qs1n qs2 qs2n qs3 qs3n es Bo HSt.out HRr.out HRs.out
        try unfold RZ at c
        rw [HF.out, HA0.out] at c
        try simp only [Act.put, List.setIfInBounds_toArray, List.set_cons_zero, List.set_cons_succ] at c
        with_reducible exact c)
      have N401 : Hid (∀ (v : World) (B2 : Nat) (r : J) (qr1 : Option Addr) (qr1n : Nat) (qr2 : Option Addr) (qr2n : Nat) (qr3 : Option Addr) (qr3n : Nat) (er : Int) (s : J) (qs1 : Option Addr) (qs1n : Nat) (qs2 : Option Addr) (qs2n : Nat) (qs3 : Option Addr) (qs3n : Nat) (es : Int) (Bo : Nat), St wc v none (some B2) (some (r, (.agg #[.int .i64 r.kind, .int .i64 r.half, .string r.text, .slice qr1 r.list.length qr1n, .slice qr2 r.keys.length qr2n, .slice qr3 r.vals.length qr3n]))) (some (s, (.agg #[.int .i64 s.kind, .int .i64 s.half, .string s.text, .slice qs1 s.list.length qs1n, .slice qs2 s.keys.length qs2n, .slice qs3 s.vals.length qs3n]))) → ResIs (setJ x p b) r er → ResIs (delJ x q) s es → F 3 #[true, true, true, true, true, true, true, true, true, false, true, false, false] (((((a0.put (some 62) (.agg #[.int .i64 5, .int .i64 0, .string ⟨#[]⟩, .slice pa l.length pc, .slice none 0 0, .slice none 0 0])).put (some 64) (.agg #[.int .i64 r.kind, .int .i64 r.half, .string r.text, .slice qr1 r.list.length qr1n, .slice qr2 r.keys.length qr2n, .slice qr3 r.vals.length qr3n, .int .i64 er])).put (some 67) (.agg #[.int .i64 5, .int .i64 0, .string ⟨#[]⟩, .slice (some ⟨Bo, 0, none⟩) 1 1, .slice none 0 0, .slice none 0 0])).put (some 68) (.agg #[.int .i64 s.kind, .int .i64 s.half, .string s.text, .slice qs1 s.list.length qs1n, .slice qs2 s.keys.length qs2n, .slice qs3 s.vals.length qs3n, .int .i64 es])).put (some 10) (.pointer (some ⟨B2, 0, none⟩))) v) := Lib.hid (by
        intro v B2 r qr1 qr1n qr2 qr2n qr3 qr3n er s qs1 qs1n qs2 qs2n qs3 qs3n es Bo hSt hr_r hr_s
        have HSt := Lib.hid hSt
        have HRr := Lib.hid hr_r
        have HRs := Lib.hid hr_s
        clear hSt hr_r hr_s
        rw [HF.out, HA0.out]
        try simp only [Act.put, List.setIfInBounds_toArray, List.set_cons_zero, List.set_cons_succ]
        skip
        refine wpAnyS_ready [9] (by as_aux_lemma => kernel_rfl) (by simp) ?_
        refine AllReadyS.cons ⟨some 9, .alloc 35, 0, _, _, none⟩ rfl (fun K hK => ?_) AllReadyS.nil
        go_simp
        replace HSt := Lib.hid (HSt.out.alloc9)
        refine hK _ _ trivial (fun _ _ => CXK.out _ HSt.out.1) ?_
        clear hK K
        try simp only [Act.put, List.setIfInBounds_toArray, List.set_cons_zero, List.set_cons_succ]
        have c := N411.out _ _ _ r qr1 qr1n qr2 qr2n qr3 qr3n er s qs1 qs1n qs2 qs2n qs3 qs3n es Bo HSt.out HRr.out HRs.out
        try unfold RZ at c
        rw [HF.out, HA0.out] at c
        try simp only [Act.put, List.setIfInBounds_toArray, List.set_cons_zero, List.set_cons_succ] at c
        with_reducible exact c)
      have N400 : Hid (∀ (v : World) (r : J) (qr1 : Option Addr) (qr1n : Nat) (qr2 : Option Addr) (qr2n : Nat) (qr3 : Option Addr) (qr3n : Nat) (er : Int) (s : J) (qs1 : Option Addr) (qs1n : Nat) (qs2 : Option Addr) (qs2n : Nat) (qs3 : Option Addr) (qs3n : Nat) (es : Int) (Bo : Nat), St wc v none none (some (r, (.agg #[.int .i64 r.kind, .int .i64 r.half, .string r.text, .slice qr1 r.list.length qr1n, .slice qr2 r.keys.length qr2n, .slice qr3 r.vals.length qr3n]))) (some (s, (.agg #[.int .i64 s.kind, .int .i64 s.half, .string s.text, .slice qs1 s.list.length qs1n, .slice qs2 s.keys.length qs2n, .slice qs3 s.vals.length qs3n]))) → ResIs (setJ x p b) r er → ResIs (delJ x q) s es → F 4 #[true, true, true, true, true, true, true, true, true, false, false, false, false] ((((a0.put (some 62) (.agg #[.int .i64 5, .int .i64 0, .string ⟨#[]⟩, .slice pa l.length pc, .slice none 0 0, .slice none 0 0])).put (some 64) (.agg #[.int .i64 r.kind, .int .i64 r.half, .string r.text, .slice qr1 r.list.length qr1n, .slice qr2 r.keys.length qr2n, .slice qr3 r.vals.length qr3n, .int .i64 er])).put (some 67) (.agg #[.int .i64 5, .int .i64 0, .string ⟨#[]⟩, .slice (some ⟨Bo, 0, none⟩) 1 1, .slice none 0 0, .slice none 0 0])).put (some 68) (.agg #[.int .i64 s.kind, .int .i64 s.half, .string s.text, .slice qs1 s.list.length qs1n, .slice qs2 s.keys.length qs2n, .slice qs3 s.vals.length qs3n, .int .i64 es])) v) := Lib.hid (by
        intro v r qr1 qr1n qr2 qr2n qr3 qr3n er s qs1 qs1n qs2 qs2n qs3 qs3n es Bo hSt hr_r hr_s
        have HSt := Lib.hid hSt
        have HRr := Lib.hid hr_r
        have HRs := Lib.hid hr_s
        clear hSt hr_r hr_s
        rw [HF.out, HA0.out]
        try simp only [Act.put, List.setIfInBounds_toArray, List.set_cons_zero, List.set_cons_succ]
        skip
        refine wpAnyS_ready [9, 10] (by as_aux_lemma => kernel_rfl) (by simp) ?_
        refine AllReadyS.cons ⟨some 9, .alloc 35, 0, _, _, none⟩ rfl (fun K hK => ?_) ?_
        focus
          go_simp
          replace HSt := Lib.hid (HSt.out.alloc9)
          refine hK _ _ trivial (fun _ _ => CXK.out _ HSt.out.1) ?_
          clear hK K
          try simp only [Act.put, List.setIfInBounds_toArray, List.set_cons_zero, List.set_cons_succ]
          have c := N410.out _ _ r qr1 qr1n qr2 qr2n qr3 qr3n er s qs1 qs1n qs2 qs2n qs3 qs3n es Bo HSt.out HRr.out HRs.out
          try unfold RZ at c
          rw [HF.out, HA0.out] at c
          try simp only [Act.put, List.setIfInBounds_toArray, List.set_cons_zero, List.set_cons_succ] at c
          with_reducible exact c
        refine AllReadyS.cons ⟨some 10, .alloc 35, 0, _, _, none⟩ rfl (fun K hK => ?_) AllReadyS.nil
        go_simp
        replace HSt := Lib.hid (HSt.out.alloc10)
        refine hK _ _ trivial (fun _ _ => CXK.out _ HSt.out.1) ?_
        clear hK K
        try simp only [Act.put, List.setIfInBounds_toArray, List.set_cons_zero, List.set_cons_succ]
        have c := N401.out _ _ r qr1 qr1n qr2 qr2n qr3 qr3n er s qs1 qs1n qs2 qs2n qs3 qs3n es Bo HSt.out HRr.out HRs.out
        try unfold RZ at c
        rw [HF.out, HA0.out] at c
        try simp only [Act.put, List.setIfInBounds_toArray, List.set_cons_zero, List.set_cons_succ] at c
        with_reducible exact c)
      have N311 : Hid (∀ (v : World) (B1 : Nat) (B2 : Nat) (r : J) (qr1 : Option Addr) (qr1n : Nat) (qr2 : Option Addr) (qr2n : Nat) (qr3 : Option Addr) (qr3n : Nat) (er : Int) (Bo : Nat), St wc v (some B1) (some B2) (some (r, (.agg #[.int .i64 r.kind, .int .i64 r.half, .string r.text, .slice qr1 r.list.length qr1n, .slice qr2 r.keys.length qr2n, .slice qr3 r.vals.length qr3n]))) none → JX v none none (.arr [.arr q]) (.agg #[.int .i64 5, .int .i64 0, .string ⟨#[]⟩, .slice (some ⟨Bo, 0, none⟩) 1 1, .slice none 0 0, .slice none 0 0]) → ResIs (setJ x p b) r er → F 3 #[true, true, true, true, true, true, true, true, false, true, true, false, false] (((((a0.put (some 62) (.agg #[.int .i64 5, .int .i64 0, .string ⟨#[]⟩, .slice pa l.length pc, .slice none 0 0, .slice none 0 0])).put (some 64) (.agg #[.int .i64 r.kind, .int .i64 r.half, .string r.text, .slice qr1 r.list.length qr1n, .slice qr2 r.keys.length qr2n, .slice qr3 r.vals.length qr3n, .int .i64 er])).put (some 67) (.agg #[.int .i64 5, .int .i64 0, .string ⟨#[]⟩, .slice (some ⟨Bo, 0, none⟩) 1 1, .slice none 0 0, .slice none 0 0])).put (some 9) (.pointer (some ⟨B1, 0, none⟩))).put (some 10) (.pointer (some ⟨B2, 0, none⟩))) v) := Lib.hid (by
        intro v B1 B2 r qr1 qr1n qr2 qr2n qr3 qr3n er Bo hSt hO hr_r
        have HSt := Lib.hid hSt
        have HO := Lib.hid hO
        have HRr := Lib.hid hr_r
        clear hSt hO hr_r
        rw [HF.out, HA0.out]
        try simp only [Act.put, List.setIfInBounds_toArray, List.set_cons_zero, List.set_cons_succ]
        skip
        refine wpAnyS_ready [8] (by as_aux_lemma => kernel_rfl) (by simp) ?_
        refine AllReadyS.cons ⟨some 68, .call { callee := .value (.func 37), args := #[.tmp 65, .tmp 67], argTypes := #[26, 26] }, 35, _, _, none⟩ rfl (fun K hK => ?_) AllReadyS.nil
        go_simp
        go_at_call 37
        refine (HDP.out _ HSt.out.1 _ HO.out).mono ?_
        rintro e nv ⟨g0, g1, g2, g3, g4, g5, es, s, rfl, hx, hj, hres⟩
        obtain ⟨qs1, qs1n, qs2, qs2n, qs3, qs3n, rfl, rfl, rfl, rfl, rfl, rfl⟩ := hj.cells6
        replace HSt := Lib.hid (HSt.out.call2 hx hj)
        have HRs := Lib.hid hres
        clear hx hj hres HO
        try go_simp
        refine hK _ _ trivial (fun _ _ => CXK.out _ HSt.out.1) ?_
        clear hK K
        try simp only [Act.put, List.setIfInBounds_toArray, List.set_cons_zero, List.set_cons_succ]
        have c := N411.out nv _ _ r qr1 qr1n qr2 qr2n qr3 qr3n er s qs1 qs1n qs2 qs2n qs3 qs3n es Bo HSt.out HRr.out HRs.out
        try unfold RZ at c
        rw [HF.out, HA0.out] at c
        try simp only [Act.put, List.setIfInBounds_toArray, List.set_cons_zero, List.set_cons_succ] at c
        with_reducible exact c)
      have N310 : Hid (∀ (v : World) (B1 : Nat) (r : J) (qr1 : Option Addr) (qr1n : Nat) (qr2 : Option Addr) (qr2n : Nat) (qr3 : Option Addr) (qr3n : Nat) (er : Int) (Bo : Nat), St wc v (some B1) none (some (r, (.agg #[.int .i64 r.kind, .int .i64 r.half, .string r.text, .slice qr1 r.list.length qr1n, .slice qr2 r.keys.length qr2n, .slice qr3 r.vals.length qr3n]))) none → JX v none none (.arr [.arr q]) (.agg #[.int .i64 5, .int .i64 0, .string ⟨#[]⟩, .slice (some ⟨Bo, 0, none⟩) 1 1, .slice none 0 0, .slice none 0 0]) → ResIs (setJ x p b) r er → F 4 #[true, true, true, true, true, true, true, true, false, true, false, false, false] ((((a0.put (some 62) (.agg #[.int .i64 5, .int .i64 0, .string ⟨#[]⟩, .slice pa l.length pc, .slice none 0 0, .slice none 0 0])).put (some 64) (.agg #[.int .i64 r.kind, .int .i64 r.half, .string r.text, .slice qr1 r.list.length qr1n, .slice qr2 r.keys.length qr2n, .slice qr3 r.vals.length qr3n, .int .i64 er])).put (some 67) (.agg #[.int .i64 5, .int .i64 0, .string ⟨#[]⟩, .slice (some ⟨Bo, 0, none⟩) 1 1, .slice none 0 0, .slice none 0 0])).put (some 9) (.pointer (some ⟨B1, 0, none⟩))) v) := Lib.hid (by
        intro v B1 r qr1 qr1n qr2 qr2n qr3 qr3n er Bo hSt hO hr_r
        have HSt := Lib.hid hSt
        have HO := Lib.hid hO
        have HRr := Lib.hid hr_r
        clear hSt hO hr_r
        rw [HF.out, HA0.out]
        try simp only [Act.put, List.setIfInBounds_toArray, List.set_cons_zero, List.set_cons_succ]
        skip
        refine wpAnyS_ready [8, 10] (by as_aux_lemma => kernel_rfl) (by simp) ?_
        refine AllReadyS.cons ⟨some 68, .call { callee := .value (.func 37), args := #[.tmp 65, .tmp 67], argTypes := #[26, 26] }, 35, _, _, none⟩ rfl (fun K hK => ?_) ?_
        focus
          go_simp
          go_at_call 37
          refine (HDP.out _ HSt.out.1 _ HO.out).mono ?_
          rintro e nv ⟨g0, g1, g2, g3, g4, g5, es, s, rfl, hx, hj, hres⟩
          obtain ⟨qs1, qs1n, qs2, qs2n, qs3, qs3n, rfl, rfl, rfl, rfl, rfl, rfl⟩ := hj.cells6
          replace HSt := Lib.hid (HSt.out.call2 hx hj)
          have HRs := Lib.hid hres
          clear hx hj hres HO
          try go_simp
          refine hK _ _ trivial (fun _ _ => CXK.out _ HSt.out.1) ?_
          clear hK K
          try simp only [Act.put, List.setIfInBounds_toArray, List.set_cons_zero, List.set_cons_succ]
          have c := N410.out nv _ r qr1 qr1n qr2 qr2n qr3 qr3n er s qs1 qs1n qs2 qs2n qs3 qs3n es Bo HSt.out HRr.out HRs.out
          try unfold RZ at c
          rw [HF.out, HA0.out] at c
          try simp only [Act.put, List.setIfInBounds_toArray, List.set_cons_zero, List.set_cons_succ] at c
          with_reducible exact c
        refine AllReadyS.cons ⟨some 10, .alloc 35, 0, _, _, none⟩ rfl (fun K hK => ?_) AllReadyS.nil
        go_simp
        replace HSt := Lib.hid (HSt.out.alloc10)
        replace HO := Lib.hid (HO.out.step (below1 _ RZ))
        refine hK _ _ trivial (fun _ _ => CXK.out _ HSt.out.1) ?_
        clear hK K
        try simp only [Act.put, List.setIfInBounds_toArray, List.set_cons_zero, List.set_cons_succ]
        have c := N311.out _ _ _ r qr1 qr1n qr2 qr2n qr3 qr3n er Bo HSt.out HO.out HRr.out
        try unfold RZ at c
        rw [HF.out, HA0.out] at c
        try simp only [Act.put, List.setIfInBounds_toArray, List.set_cons_zero, List.set_cons_succ] at c
        with_reducible exact c)
      have N301 : Hid (∀ (v : World) (B2 : Nat) (r : J) (qr1 : Option Addr) (qr1n : Nat) (qr2 : Option Addr) (qr2n : Nat) (qr3 : Option Addr) (qr3n : Nat) (er : Int) (Bo : Nat), St wc v none (some B2) (some (r, (.agg #[.int .i64 r.kind, .int .i64 r.half, .string r.text, .slice qr1 r.list.length qr1n, .slice qr2 r.keys.length qr2n, .slice qr3 r.vals.length qr3n]))) none → JX v none none (.arr [.arr q]) (.agg #[.int .i64 5, .int .i64 0, .string ⟨#[]⟩, .slice (some ⟨Bo, 0, none⟩) 1 1, .slice none 0 0, .slice none 0 0]) → ResIs (setJ x p b) r er → F 4 #[true, true, true, true, true, true, true, true, false, false, true, false, false] ((((a0.put (some 62) (.agg #[.int .i64 5, .int .i64 0, .string ⟨#[]⟩, .slice pa l.length pc, .slice none 0 0, .slice none 0 0])).put (some 64) (.agg #[.int .i64 r.kind, .int .i64 r.half, .string r.text, .slice qr1 r.list.length qr1n, .slice qr2 r.keys.length qr2n, .slice qr3 r.vals.length qr3n, .int .i64 er])).put (some 67) (.agg #[.int .i64 5, .int .i64 0, .string ⟨#[]⟩, .slice (some ⟨Bo, 0, none⟩) 1 1, .slice none 0 0, .slice none 0 0])).put (some 10) (.pointer (some ⟨B2, 0, none⟩))) v) := Lib.hid (by
        intro v B2 r qr1 qr1n qr2 qr2n qr3 qr3n er Bo hSt hO hr_r
        have HSt := Lib.hid hSt
        have HO := Lib.hid hO
        have HRr := Lib.hid hr_r
        clear hSt hO hr_r
        rw [HF.out, HA0.out]
        try simp only [Act.put, List.setIfInBounds_toArray, List.set_cons_zero, List.set_cons_succ]
        skip
        refine wpAnyS_ready [8, 9] (by as_aux_lemma => kernel_rfl) (by simp) ?_
        refine AllReadyS.cons ⟨some 68, .call { callee := .value (.func 37), args := #[.tmp 65, .tmp 67], argTypes := #[26, 26] }, 35, _, _, none⟩ rfl (fun K hK => ?_) ?_
        focus
          go_simp
          go_at_call 37
          refine (HDP.out _ HSt.out.1 _ HO.out).mono ?_
          rintro e nv ⟨g0, g1, g2, g3, g4, g5, es, s, rfl, hx, hj, hres⟩
          obtain ⟨qs1, qs1n, qs2, qs2n, qs3, qs3n, rfl, rfl, rfl, rfl, rfl, rfl⟩ := hj.cells6
          replace HSt := Lib.hid (HSt.out.call2 hx hj)
          have HRs := Lib.hid hres
          clear hx hj hres HO
          try go_simp
          refine hK _ _ trivial (fun _ _ => CXK.out _ HSt.out.1) ?_
          clear hK K
          try simp only [Act.put, List.setIfInBounds_toArray, List.set_cons_zero, List.set_cons_succ]
          have c := N401.out nv _ r qr1 qr1n qr2 qr2n qr3 qr3n er s qs1 qs1n qs2 qs2n qs3 qs3n es Bo HSt.out HRr.out HRs.out
          try unfold RZ at c
          rw [HF.out, HA0.out] at c
          try simp only [Act.put, List.setIfInBounds_toArray, List.set_cons_zero, List.set_cons_succ] at c
          with_reducible exact c
        refine AllReadyS.cons ⟨some 9, .alloc 35, 0, _, _, none⟩ rfl (fun K hK => ?_) AllReadyS.nil
        go_simp
        replace HSt := Lib.hid (HSt.out.alloc9)
        replace HO := Lib.hid (HO.out.step (below1 _ RZ))
        refine hK _ _ trivial (fun _ _ => CXK.out _ HSt.out.1) ?_
        clear hK K
        try simp only [Act.put, List.setIfInBounds_toArray, List.set_cons_zero, List.set_cons_succ]
        have c := N311.out _ _ _ r qr1 qr1n qr2 qr2n qr3 qr3n er Bo HSt.out HO.out HRr.out
        try unfold RZ at c
        rw [HF.out, HA0.out] at c
        try simp only [Act.put, List.setIfInBounds_toArray, List.set_cons_zero, List.set_cons_succ] at c
        with_reducible exact c)
      have N300 : Hid (∀ (v : World) (r : J) (qr1 : Option Addr) (qr1n : Nat) (qr2 : Option Addr) (qr2n : Nat) (qr3 : Option Addr) (qr3n : Nat) (er : Int) (Bo : Nat), St wc v none none (some (r, (.agg #[.int .i64 r.kind, .int .i64 r.half, .string r.text, .slice qr1 r.list.length qr1n, .slice qr2 r.keys.length qr2n, .slice qr3 r.vals.length qr3n]))) none → JX v none none (.arr [.arr q]) (.agg #[.int .i64 5, .int .i64 0, .string ⟨#[]⟩, .slice (some ⟨Bo, 0, none⟩) 1 1, .slice none 0 0, .slice none 0 0]) → ResIs (setJ x p b) r er → F 5 #[true, true, true, true, true, true, true, true, false, false, false, false, false] (((a0.put (some 62) (.agg #[.int .i64 5, .int .i64 0, .string ⟨#[]⟩, .slice pa l.length pc, .slice none 0 0, .slice none 0 0])).put (some 64) (.agg #[.int .i64 r.kind, .int .i64 r.half, .string r.text, .slice qr1 r.list.length qr1n, .slice qr2 r.keys.length qr2n, .slice qr3 r.vals.length qr3n, .int .i64 er])).put (some 67) (.agg #[.int .i64 5, .int .i64 0, .string ⟨#[]⟩, .slice (some ⟨Bo, 0, none⟩) 1 1, .slice none 0 0, .slice none 0 0])) v) := Lib.hid (by
        intro v r qr1 qr1n qr2 qr2n qr3 qr3n er Bo hSt hO hr_r
        have HSt := Lib.hid hSt
        have HO := Lib.hid hO
        have HRr := Lib.hid hr_r
        clear hSt hO hr_r
        rw [HF.out, HA0.out]
        try simp only [Act.put, List.setIfInBounds_toArray, List.set_cons_zero, List.set_cons_succ]
        skip
        refine wpAnyS_ready [8, 9, 10] (by as_aux_lemma => kernel_rfl) (by simp) ?_
        refine AllReadyS.cons ⟨some 68, .call { callee := .value (.func 37), args := #[.tmp 65, .tmp 67], argTypes := #[26, 26] }, 35, _, _, none⟩ rfl (fun K hK => ?_) ?_
        focus
          go_simp
          go_at_call 37
          refine (HDP.out _ HSt.out.1 _ HO.out).mono ?_
          rintro e nv ⟨g0, g1, g2, g3, g4, g5, es, s, rfl, hx, hj, hres⟩
          obtain ⟨qs1, qs1n, qs2, qs2n, qs3, qs3n, rfl, rfl, rfl, rfl, rfl, rfl⟩ := hj.cells6
          replace HSt := Lib.hid (HSt.out.call2 hx hj)
          have HRs := Lib.hid hres
          clear hx hj hres HO
          try go_simp
          refine hK _ _ trivial (fun _ _ => CXK.out _ HSt.out.1) ?_
          clear hK K
          try simp only [Act.put, List.setIfInBounds_toArray, List.set_cons_zero, List.set_cons_succ]
          have c := N400.out nv r qr1 qr1n qr2 qr2n qr3 qr3n er s qs1 qs1n qs2 qs2n qs3 qs3n es Bo HSt.out HRr.out HRs.out
          try unfold RZ at c
          rw [HF.out, HA0.out] at c
          try simp only [Act.put, List.setIfInBounds_toArray, List.set_cons_zero, List.set_cons_succ] at c
          with_reducible exact c
        refine AllReadyS.cons ⟨some 9, .alloc 35, 0, _, _, none⟩ rfl (fun K hK => ?_) ?_
        focus
          go_simp
          replace HSt := Lib.hid (HSt.out.alloc9)
          replace HO := Lib.hid (HO.out.step (below1 _ RZ))
          refine hK _ _ trivial (fun _ _ => CXK.out _ HSt.out.1) ?_
          clear hK K
          try simp only [Act.put, List.setIfInBounds_toArray, List.set_cons_zero, List.set_cons_succ]
          have c := N310.out _ _ r qr1 qr1n qr2 qr2n qr3 qr3n er Bo HSt.out HO.out HRr.out
          try unfold RZ at c
          rw [HF.out, HA0.out] at c
          try simp only [Act.put, List.setIfInBounds_toArray, List.set_cons_zero, List.set_cons_succ] at c
          with_reducible exact c
        refine AllReadyS.cons ⟨some 10, .alloc 35, 0, _, _, none⟩ rfl (fun K hK => ?_) AllReadyS.nil
        go_simp
        replace HSt := Lib.hid (HSt.out.alloc10)
        replace HO := Lib.hid (HO.out.step (below1 _ RZ))
        refine hK _ _ trivial (fun _ _ => CXK.out _ HSt.out.1) ?_
        clear hK K
        try simp only [Act.put, List.setIfInBounds_toArray, List.set_cons_zero, List.set_cons_succ]
        have c := N301.out _ _ r qr1 qr1n qr2 qr2n qr3 qr3n er Bo HSt.out HO.out HRr.out
        try unfold RZ at c
        rw [HF.out, HA0.out] at c
        try simp only [Act.put, List.setIfInBounds_toArray, List.set_cons_zero, List.set_cons_succ] at c
        with_reducible exact c)
      have N211 : Hid (∀ (v : World) (B1 : Nat) (B2 : Nat) (r : J) (qr1 : Option Addr) (qr1n : Nat) (qr2 : Option Addr) (qr2n : Nat) (qr3 : Option Addr) (qr3n : Nat) (er : Int), St wc v (some B1) (some B2) (some (r, (.agg #[.int .i64 r.kind, .int .i64 r.half, .string r.text, .slice qr1 r.list.length qr1n, .slice qr2 r.keys.length qr2n, .slice qr3 r.vals.length qr3n]))) none → ResIs (setJ x p b) r er → F 4 #[true, true, true, true, true, true, true, false, false, true, true, false, false] ((((a0.put (some 62) (.agg #[.int .i64 5, .int .i64 0, .string ⟨#[]⟩, .slice pa l.length pc, .slice none 0 0, .slice none 0 0])).put (some 64) (.agg #[.int .i64 r.kind, .int .i64 r.half, .string r.text, .slice qr1 r.list.length qr1n, .slice qr2 r.keys.length qr2n, .slice qr3 r.vals.length qr3n, .int .i64 er])).put (some 9) (.pointer (some ⟨B1, 0, none⟩))).put (some 10) (.pointer (some ⟨B2, 0, none⟩))) v) := Lib.hid (by
        intro v B1 B2 r qr1 qr1n qr2 qr2n qr3 qr3n er hSt hr_r
        have HSt := Lib.hid hSt
        have HRr := Lib.hid hr_r
        clear hSt hr_r
        rw [HF.out, HA0.out]
        try simp only [Act.put, List.setIfInBounds_toArray, List.set_cons_zero, List.set_cons_succ]
        skip
        refine wpAnyS_ready [7] (by as_aux_lemma => kernel_rfl) (by simp) ?_
        refine AllReadyS.cons ⟨some 67, .call { callee := .value (.func 38), args := #[.tmp 66], argTypes := #[23] }, 26, _, _, none⟩ rfl (fun K hK => ?_) AllReadyS.nil
        go_simp
        go_at_call 38
        refine (HONE.out _).mono ?_
        rintro e nv ⟨Bo, rfl, hx, hB, hcell⟩
        replace HSt := Lib.hid (HSt.out.step hx)
        have HO := Lib.hid (HOR.out nv Bo HSt.out.1 hcell)
        clear hx hB hcell
        try go_simp
        refine hK _ _ trivial (fun _ _ => CXK.out _ HSt.out.1) ?_
        clear hK K
        try simp only [Act.put, List.setIfInBounds_toArray, List.set_cons_zero, List.set_cons_succ]
        have c := N311.out nv _ _ r qr1 qr1n qr2 qr2n qr3 qr3n er Bo HSt.out HO.out HRr.out
        try unfold RZ at c
        rw [HF.out, HA0.out] at c
        try simp only [Act.put, List.setIfInBounds_toArray, List.set_cons_zero, List.set_cons_succ] at c
        with_reducible exact c)
      have N210 : Hid (∀ (v : World) (B1 : Nat) (r : J) (qr1 : Option Addr) (qr1n : Nat) (qr2 : Option Addr) (qr2n : Nat) (qr3 : Option Addr) (qr3n : Nat) (er : Int), St wc v (some B1) none (some (r, (.agg #[.int .i64 r.kind, .int .i64 r.half, .string r.text, .slice qr1 r.list.length qr1n, .slice qr2 r.keys.length qr2n, .slice qr3 r.vals.length qr3n]))) none → ResIs (setJ x p b) r er → F 5 #[true, true, true, true, true, true, true, false, false, true, false, false, false] (((a0.put (some 62) (.agg #[.int .i64 5, .int .i64 0, .string ⟨#[]⟩, .slice pa l.length pc, .slice none 0 0, .slice none 0 0])).put (some 64) (.agg #[.int .i64 r.kind, .int .i64 r.half, .string r.text, .slice qr1 r.list.length qr1n, .slice qr2 r.keys.length qr2n, .slice qr3 r.vals.length qr3n, .int .i64 er])).put (some 9) (.pointer (some ⟨B1, 0, none⟩))) v) := Lib.hid (by
        intro v B1 r qr1 qr1n qr2 qr2n qr3 qr3n er hSt hr_r
        have HSt := Lib.hid hSt
        have HRr := Lib.hid hr_r
        clear hSt hr_r
        rw [HF.out, HA0.out]
        try simp only [Act.put, List.setIfInBounds_toArray, List.set_cons_zero, List.set_cons_succ]
        skip
        refine wpAnyS_ready [7, 10] (by as_aux_lemma => kernel_rfl) (by simp) ?_
        refine AllReadyS.cons ⟨some 67, .call { callee := .value (.func 38), args := #[.tmp 66], argTypes := #[23] }, 26, _, _, none⟩ rfl (fun K hK => ?_) ?_
        focus
          go_simp
          go_at_call 38
          refine (HONE.out _).mono ?_
          rintro e nv ⟨Bo, rfl, hx, hB, hcell⟩
          replace HSt := Lib.hid (HSt.out.step hx)
          have HO := Lib.hid (HOR.out nv Bo HSt.out.1 hcell)
          clear hx hB hcell
          try go_simp
          refine hK _ _ trivial (fun _ _ => CXK.out _ HSt.out.1) ?_
          clear hK K
          try simp only [Act.put, List.setIfInBounds_toArray, List.set_cons_zero, List.set_cons_succ]
          have c := N310.out nv _ r qr1 qr1n qr2 qr2n qr3 qr3n er Bo HSt.out HO.out HRr.out
          try unfold RZ at c
          rw [HF.out, HA0.out] at c
          try simp only [Act.put, List.setIfInBounds_toArray, List.set_cons_zero, List.set_cons_succ] at c
          with_reducible exact c
        refine AllReadyS.cons ⟨some 10, .alloc 35, 0, _, _, none⟩ rfl (fun K hK => ?_) AllReadyS.nil
        go_simp
        replace HSt := Lib.hid (HSt.out.alloc10)
        refine hK _ _ trivial (fun _ _ => CXK.out _ HSt.out.1) ?_
        clear hK K
        try simp only [Act.put, List.setIfInBounds_toArray, List.set_cons_zero, List.set_cons_succ]
        have c := N211.out _ _ _ r qr1 qr1n qr2 qr2n qr3 qr3n er HSt.out HRr.out
        try unfold RZ at c
        rw [HF.out, HA0.out] at c
        try simp only [Act.put, List.setIfInBounds_toArray, List.set_cons_zero, List.set_cons_succ] at c
        with_reducible exact c)
      have N201 : Hid (∀ (v : World) (B2 : Nat) (r : J) (qr1 : Option Addr) (qr1n : Nat) (qr2 : Option Addr) (qr2n : Nat) (qr3 : Option Addr) (qr3n : Nat) (er : Int), St wc v none (some B2) (some (r, (.agg #[.int .i64 r.kind, .int .i64 r.half, .string r.text, .slice qr1 r.list.length qr1n, .slice qr2 r.keys.length qr2n, .slice qr3 r.vals.length qr3n]))) none → ResIs (setJ x p b) r er → F 5 #[true, true, true, true, true, true, true, false, false, false, true, false, false] (((a0.put (some 62) (.agg #[.int .i64 5, .int .i64 0, .string ⟨#[]⟩, .slice pa l.length pc, .slice none 0 0, .slice none 0 0])).put (some 64) (.agg #[.int .i64 r.kind, .int .i64 r.half, .string r.text, .slice qr1 r.list.length qr1n, .slice qr2 r.keys.length qr2n, .slice qr3 r.vals.length qr3n, .int .i64 er])).put (some 10) (.pointer (some ⟨B2, 0, none⟩))) v) := Lib.hid (by
        intro v B2 r qr1 qr1n qr2 qr2n qr3 qr3n er hSt hr_r
        have HSt := Lib.hid hSt
        have HRr := Lib.hid hr_r
        clear hSt hr_r
        rw [HF.out, HA0.out]
        try simp only [Act.put, List.setIfInBounds_toArray, List.set_cons_zero, List.set_cons_succ]
        skip
        refine wpAnyS_ready [7, 9] (by as_aux_lemma => kernel_rfl) (by simp) ?_
        refine AllReadyS.cons ⟨some 67, .call { callee := .value (.func 38), args := #[.tmp 66], argTypes := #[23] }, 26, _, _, none⟩ rfl (fun K hK => ?_) ?_
        focus
          go_simp
          go_at_call 38
          refine (HONE.out _).mono ?_
          rintro e nv ⟨Bo, rfl, hx, hB, hcell⟩
          replace HSt := Lib.hid (HSt.out.step hx)
          have HO := Lib.hid (HOR.out nv Bo HSt.out.1 hcell)
          clear hx hB hcell
          try go_simp
          refine hK _ _ trivial (fun _ _ => CXK.out _ HSt.out.1) ?_
          clear hK K
          try simp only [Act.put, List.setIfInBounds_toArray, List.set_cons_zero, List.set_cons_succ]
          have c := N301.out nv _ r qr1 qr1n qr2 qr2n qr3 qr3n er Bo HSt.out HO.out HRr.out
          try unfold RZ at c
          rw [HF.out, HA0.out] at c
          try simp only [Act.put, List.setIfInBounds_toArray, List.set_cons_zero, List.set_cons_succ] at c
          with_reducible exact c
        refine AllReadyS.cons ⟨some 9, .alloc 35, 0, _, _, none⟩ rfl (fun K hK => ?_) AllReadyS.nil
        go_simp
        replace HSt := Lib.hid (HSt.out.alloc9)
        refine hK _ _ trivial (fun _ _ => CXK.out _ HSt.out.1) ?_
        clear hK K
        try simp only [Act.put, List.setIfInBounds_toArray, List.set_cons_zero, List.set_cons_succ]
        have c := N211.out _ _ _ r qr1 qr1n qr2 qr2n qr3 qr3n er HSt.out HRr.out
        try unfold RZ at c
        rw [HF.out, HA0.out] at c
        try simp only [Act.put, List.setIfInBounds_toArray, List.set_cons_zero, List.set_cons_succ] at c
        with_reducible exact c)
      have N200 : Hid (∀ (v : World) (r : J) (qr1 : Option Addr) (qr1n : Nat) (qr2 : Option Addr) (qr2n : Nat) (qr3 : Option Addr) (qr3n : Nat) (er : Int), St wc v none none (some (r, (.agg #[.int .i64 r.kind, .int .i64 r.half, .string r.text, .slice qr1 r.list.length qr1n, .slice qr2 r.keys.length qr2n, .slice qr3 r.vals.length qr3n]))) none → ResIs (setJ x p b) r er → F 6 #[true, true, true, true, true, true, true, false, false, false, false, false, false] ((a0.put (some 62) (.agg #[.int .i64 5, .int .i64 0, .string ⟨#[]⟩, .slice pa l.length pc, .slice none 0 0, .slice none 0 0])).put (some 64) (.agg #[.int .i64 r.kind, .int .i64 r.half, .string r.text, .slice qr1 r.list.length qr1n, .slice qr2 r.keys.length qr2n, .slice qr3 r.vals.length qr3n, .int .i64 er])) v) := Lib.hid (by
        intro v r qr1 qr1n qr2 qr2n qr3 qr3n er hSt hr_r
        have HSt := Lib.hid hSt
        have HRr := Lib.hid hr_r
        clear hSt hr_r
        rw [HF.out, HA0.out]
        try simp only [Act.put, List.setIfInBounds_toArray, List.set_cons_zero, List.set_cons_succ]
        skip
        refine wpAnyS_ready [7, 9, 10] (by as_aux_lemma => kernel_rfl) (by simp) ?_
        refine AllReadyS.cons ⟨some 67, .call { callee := .value (.func 38), args := #[.tmp 66], argTypes := #[23] }, 26, _, _, none⟩ rfl (fun K hK => ?_) ?_
        focus
          go_simp
          go_at_call 38
          refine (HONE.out _).mono ?_
          rintro e nv ⟨Bo, rfl, hx, hB, hcell⟩
          replace HSt := Lib.hid (HSt.out.step hx)
          have HO := Lib.hid (HOR.out nv Bo HSt.out.1 hcell)
          clear hx hB hcell
          try go_simp
          refine hK _ _ trivial (fun _ _ => CXK.out _ HSt.out.1) ?_
          clear hK K
          try simp only [Act.put, List.setIfInBounds_toArray, List.set_cons_zero, List.set_cons_succ]
          have c := N300.out nv r qr1 qr1n qr2 qr2n qr3 qr3n er Bo HSt.out HO.out HRr.out
          try unfold RZ at c
          rw [HF.out, HA0.out] at c
          try simp only [Act.put, List.setIfInBounds_toArray, List.set_cons_zero, List.set_cons_succ] at c
          with_reducible exact c
        refine AllReadyS.cons ⟨some 9, .alloc 35, 0, _, _, none⟩ rfl (fun K hK => ?_) ?_
        focus
          go_simp
          replace HSt := Lib.hid (HSt.out.alloc9)
          refine hK _ _ trivial (fun _ _ => CXK.out _ HSt.out.1) ?_
          clear hK K
          try simp only [Act.put, List.setIfInBounds_toArray, List.set_cons_zero, List.set_cons_succ]
          have c := N210.out _ _ r qr1 qr1n qr2 qr2n qr3 qr3n er HSt.out HRr.out
          try unfold RZ at c
          rw [HF.out, HA0.out] at c
          try simp only [Act.put, List.setIfInBounds_toArray, List.set_cons_zero, List.set_cons_succ] at c
          with_reducible exact c
        refine AllReadyS.cons ⟨some 10, .alloc 35, 0, _, _, none⟩ rfl (fun K hK => ?_) AllReadyS.nil
        go_simp
        replace HSt := Lib.hid (HSt.out.alloc10)
        refine hK _ _ trivial (fun _ _ => CXK.out _ HSt.out.1) ?_
        clear hK K
        try simp only [Act.put, List.setIfInBounds_toArray, List.set_cons_zero, List.set_cons_succ]
        have c := N201.out _ _ r qr1 qr1n qr2 qr2n qr3 qr3n er HSt.out HRr.out
        try unfold RZ at c
        rw [HF.out, HA0.out] at c
        try simp only [Act.put, List.setIfInBounds_toArray, List.set_cons_zero, List.set_cons_succ] at c
        with_reducible exact c)
      have N111 : Hid (∀ (v : World) (B1 : Nat) (B2 : Nat), St wc v (some B1) (some B2) none none → F 5 #[true, true, true, true, false, true, true, false, false, true, true, false, false] (((a0.put (some 62) (.agg #[.int .i64 5, .int .i64 0, .string ⟨#[]⟩, .slice pa l.length pc, .slice none 0 0, .slice none 0 0])).put (some 9) (.pointer (some ⟨B1, 0, none⟩))).put (some 10) (.pointer (some ⟨B2, 0, none⟩))) v) := Lib.hid (by
        intro v B1 B2 hSt
        have HSt := Lib.hid hSt
        clear hSt
        rw [HF.out, HA0.out]
        try simp only [Act.put, List.setIfInBounds_toArray, List.set_cons_zero, List.set_cons_succ]
        skip
        refine wpAnyS_ready [4] (by as_aux_lemma => kernel_rfl) (by simp) ?_
        refine AllReadyS.cons ⟨some 64, .call { callee := .value (.func 30), args := #[.tmp 60, .tmp 62, .tmp 63], argTypes := #[26, 26, 26] }, 35, _, _, none⟩ rfl (fun K hK => ?_) AllReadyS.nil
        go_simp
        go_at_call 30
        refine (HSP.out _ HSt.out.1).mono ?_
        rintro e nv ⟨g0, g1, g2, g3, g4, g5, er, r, rfl, hx, hj, hres⟩
        obtain ⟨qr1, qr1n, qr2, qr2n, qr3, qr3n, rfl, rfl, rfl, rfl, rfl, rfl⟩ := hj.cells6
        replace HSt := Lib.hid (HSt.out.call1 hx hj)
        have HRr := Lib.hid hres
        clear hx hj hres
        try go_simp
        refine hK _ _ trivial (fun _ _ => CXK.out _ HSt.out.1) ?_
        clear hK K
        try simp only [Act.put, List.setIfInBounds_toArray, List.set_cons_zero, List.set_cons_succ]
        have c := N211.out nv _ _ r qr1 qr1n qr2 qr2n qr3 qr3n er HSt.out HRr.out
        try unfold RZ at c
        rw [HF.out, HA0.out] at c
        try simp only [Act.put, List.setIfInBounds_toArray, List.set_cons_zero, List.set_cons_succ] at c
        with_reducible exact c)
      have N110 : Hid (∀ (v : World) (B1 : Nat), St wc v (some B1) none none none → F 6 #[true, true, true, true, false, true, true, false, false, true, false, false, false] ((a0.put (some 62) (.agg #[.int .i64 5, .int .i64 0, .string ⟨#[]⟩, .slice pa l.length pc, .slice none 0 0, .slice none 0 0])).put (some 9) (.pointer (some ⟨B1, 0, none⟩))) v) := Lib.hid (by
        intro v B1 hSt
        have HSt := Lib.hid hSt
        clear hSt
        rw [HF.out, HA0.out]
        try simp only [Act.put, List.setIfInBounds_toArray, List.set_cons_zero, List.set_cons_succ]
        skip
        refine wpAnyS_ready [4, 10] (by as_aux_lemma => kernel_rfl) (by simp) ?_
        refine AllReadyS.cons ⟨some 64, .call { callee := .value (.func 30), args := #[.tmp 60, .tmp 62, .tmp 63], argTypes := #[26, 26, 26] }, 35, _, _, none⟩ rfl (fun K hK => ?_) ?_
        focus
          go_simp
          go_at_call 30
          refine (HSP.out _ HSt.out.1).mono ?_
          rintro e nv ⟨g0, g1, g2, g3, g4, g5, er, r, rfl, hx, hj, hres⟩
          obtain ⟨qr1, qr1n, qr2, qr2n, qr3, qr3n, rfl, rfl, rfl, rfl, rfl, rfl⟩ := hj.cells6
          replace HSt := Lib.hid (HSt.out.call1 hx hj)
          have HRr := Lib.hid hres
          clear hx hj hres
          try go_simp
          refine hK _ _ trivial (fun _ _ => CXK.out _ HSt.out.1) ?_
          clear hK K
          try simp only [Act.put, List.setIfInBounds_toArray, List.set_cons_zero, List.set_cons_succ]
          have c := N210.out nv _ r qr1 qr1n qr2 qr2n qr3 qr3n er HSt.out HRr.out
          try unfold RZ at c
          rw [HF.out, HA0.out] at c
          try simp only [Act.put, List.setIfInBounds_toArray, List.set_cons_zero, List.set_cons_succ] at c
          with_reducible exact c
        refine AllReadyS.cons ⟨some 10, .alloc 35, 0, _, _, none⟩ rfl (fun K hK => ?_) AllReadyS.nil
        go_simp
        replace HSt := Lib.hid (HSt.out.alloc10)
        refine hK _ _ trivial (fun _ _ => CXK.out _ HSt.out.1) ?_
        clear hK K
        try simp only [Act.put, List.setIfInBounds_toArray, List.set_cons_zero, List.set_cons_succ]
        have c := N111.out _ _ _ HSt.out
        try unfold RZ at c
        rw [HF.out, HA0.out] at c
        try simp only [Act.put, List.setIfInBounds_toArray, List.set_cons_zero, List.set_cons_succ] at c
        with_reducible exact c)
      have N101 : Hid (∀ (v : World) (B2 : Nat), St wc v none (some B2) none none → F 6 #[true, true, true, true, false, true, true, false, false, false, true, false, false] ((a0.put (some 62) (.agg #[.int .i64 5, .int .i64 0, .string ⟨#[]⟩, .slice pa l.length pc, .slice none 0 0, .slice none 0 0])).put (some 10) (.pointer (some ⟨B2, 0, none⟩))) v) := Lib.hid (by
        intro v B2 hSt
        have HSt := Lib.hid hSt
        clear hSt
        rw [HF.out, HA0.out]
        try simp only [Act.put, List.setIfInBounds_toArray, List.set_cons_zero, List.set_cons_succ]
        skip
        refine wpAnyS_ready [4, 9] (by as_aux_lemma => kernel_rfl) (by simp) ?_
        refine AllReadyS.cons ⟨some 64, .call { callee := .value (.func 30), args := #[.tmp 60, .tmp 62, .tmp 63], argTypes := #[26, 26, 26] }, 35, _, _, none⟩ rfl (fun K hK => ?_) ?_
        focus
          go_simp
          go_at_call 30
          refine (HSP.out _ HSt.out.1).mono ?_
          rintro e nv ⟨g0, g1, g2, g3, g4, g5, er, r, rfl, hx, hj, hres⟩
          obtain ⟨qr1, qr1n, qr2, qr2n, qr3, qr3n, rfl, rfl, rfl, rfl, rfl, rfl⟩ := hj.cells6
          replace HSt := Lib.hid (HSt.out.call1 hx hj)
          have HRr := Lib.hid hres
          clear hx hj hres
          try go_simp
          refine hK _ _ trivial (fun _ _ => CXK.out _ HSt.out.1) ?_
          clear hK K
          try simp only [Act.put, List.setIfInBounds_toArray, List.set_cons_zero, List.set_cons_succ]
          have c := N201.out nv _ r qr1 qr1n qr2 qr2n qr3 qr3n er HSt.out HRr.out
          try unfold RZ at c
          rw [HF.out, HA0.out] at c
          try simp only [Act.put, List.setIfInBounds_toArray, List.set_cons_zero, List.set_cons_succ] at c
          with_reducible exact c
        refine AllReadyS.cons ⟨some 9, .alloc 35, 0, _, _, none⟩ rfl (fun K hK => ?_) AllReadyS.nil
        go_simp
        replace HSt := Lib.hid (HSt.out.alloc9)
        refine hK _ _ trivial (fun _ _ => CXK.out _ HSt.out.1) ?_
        clear hK K
        try simp only [Act.put, List.setIfInBounds_toArray, List.set_cons_zero, List.set_cons_succ]
        have c := N111.out _ _ _ HSt.out
        try unfold RZ at c
        rw [HF.out, HA0.out] at c
        try simp only [Act.put, List.setIfInBounds_toArray, List.set_cons_zero, List.set_cons_succ] at c
        with_reducible exact c)
      have N100 : Hid (∀ (v : World) , St wc v none none none none → F 7 #[true, true, true, true, false, true, true, false, false, false, false, false, false] (a0.put (some 62) (.agg #[.int .i64 5, .int .i64 0, .string ⟨#[]⟩, .slice pa l.length pc, .slice none 0 0, .slice none 0 0])) v) := Lib.hid (by
        intro v  hSt
        have HSt := Lib.hid hSt
        clear hSt
        rw [HF.out, HA0.out]
        try simp only [Act.put, List.setIfInBounds_toArray, List.set_cons_zero, List.set_cons_succ]
        skip
        refine wpAnyS_ready [4, 9, 10] (by as_aux_lemma => kernel_rfl) (by simp) ?_
        refine AllReadyS.cons ⟨some 64, .call { callee := .value (.func 30), args := #[.tmp 60, .tmp 62, .tmp 63], argTypes := #[26, 26, 26] }, 35, _, _, none⟩ rfl (fun K hK => ?_) ?_
        focus
          go_simp
          go_at_call 30
          refine (HSP.out _ HSt.out.1).mono ?_
          rintro e nv ⟨g0, g1, g2, g3, g4, g5, er, r, rfl, hx, hj, hres⟩
          obtain ⟨qr1, qr1n, qr2, qr2n, qr3, qr3n, rfl, rfl, rfl, rfl, rfl, rfl⟩ := hj.cells6
          replace HSt := Lib.hid (HSt.out.call1 hx hj)
          have HRr := Lib.hid hres
          clear hx hj hres
          try go_simp
          refine hK _ _ trivial (fun _ _ => CXK.out _ HSt.out.1) ?_
          clear hK K
          try simp only [Act.put, List.setIfInBounds_toArray, List.set_cons_zero, List.set_cons_succ]
          have c := N200.out nv r qr1 qr1n qr2 qr2n qr3 qr3n er HSt.out HRr.out
          try unfold RZ at c
          rw [HF.out, HA0.out] at c
          try simp only [Act.put, List.setIfInBounds_toArray, List.set_cons_zero, List.set_cons_succ] at c
          with_reducible exact c
        refine AllReadyS.cons ⟨some 9, .alloc 35, 0, _, _, none⟩ rfl (fun K hK => ?_) ?_
        focus
          go_simp
          replace HSt := Lib.hid (HSt.out.alloc9)
          refine hK _ _ trivial (fun _ _ => CXK.out _ HSt.out.1) ?_
          clear hK K
          try simp only [Act.put, List.setIfInBounds_toArray, List.set_cons_zero, List.set_cons_succ]
          have c := N110.out _ _ HSt.out
          try unfold RZ at c
          rw [HF.out, HA0.out] at c
          try simp only [Act.put, List.setIfInBounds_toArray, List.set_cons_zero, List.set_cons_succ] at c
          with_reducible exact c
        refine AllReadyS.cons ⟨some 10, .alloc 35, 0, _, _, none⟩ rfl (fun K hK => ?_) AllReadyS.nil
        go_simp
        replace HSt := Lib.hid (HSt.out.alloc10)
        refine hK _ _ trivial (fun _ _ => CXK.out _ HSt.out.1) ?_
        clear hK K
        try simp only [Act.put, List.setIfInBounds_toArray, List.set_cons_zero, List.set_cons_succ]
        have c := N101.out _ _ HSt.out
        try unfold RZ at c
        rw [HF.out, HA0.out] at c
        try simp only [Act.put, List.setIfInBounds_toArray, List.set_cons_zero, List.set_cons_succ] at c
        with_reducible exact c)
      have N011 : Hid (∀ (v : World) (B1 : Nat) (B2 : Nat), St wc v (some B1) (some B2) none none → F 6 #[true, true, false, true, false, true, true, false, false, true, true, false, false] ((a0.put (some 9) (.pointer (some ⟨B1, 0, none⟩))).put (some 10) (.pointer (some ⟨B2, 0, none⟩))) v) := Lib.hid (by
        intro v B1 B2 hSt
        have HSt := Lib.hid hSt
        clear hSt
        rw [HF.out, HA0.out]
        try simp only [Act.put, List.setIfInBounds_toArray, List.set_cons_zero, List.set_cons_succ]
        skip
        refine wpAnyS_ready [2] (by as_aux_lemma => kernel_rfl) (by simp) ?_
        refine AllReadyS.cons ⟨some 62, .call { callee := .value (.func 12), args := #[.tmp 61], argTypes := #[23] }, 26, _, _, none⟩ rfl (fun K hK => ?_) AllReadyS.nil
        go_simp
        go_at_call 12
        refine (HARR.out _).mono ?_
        rintro e nv ⟨rfl, hx⟩
        replace HSt := Lib.hid (HSt.out.step hx)
        clear hx
        try go_simp
        refine hK _ _ trivial (fun _ _ => CXK.out _ HSt.out.1) ?_
        clear hK K
        try simp only [Act.put, List.setIfInBounds_toArray, List.set_cons_zero, List.set_cons_succ]
        have c := N111.out nv _ _ HSt.out
        try unfold RZ at c
        rw [HF.out, HA0.out] at c
        try simp only [Act.put, List.setIfInBounds_toArray, List.set_cons_zero, List.set_cons_succ] at c
        with_reducible exact c)
      have N010 : Hid (∀ (v : World) (B1 : Nat), St wc v (some B1) none none none → F 7 #[true, true, false, true, false, true, true, false, false, true, false, false, false] (a0.put (some 9) (.pointer (some ⟨B1, 0, none⟩))) v) := Lib.hid (by
        intro v B1 hSt
        have HSt := Lib.hid hSt
        clear hSt
        rw [HF.out, HA0.out]
        try simp only [Act.put, List.setIfInBounds_toArray, List.set_cons_zero, List.set_cons_succ]
        skip
        refine wpAnyS_ready [2, 10] (by as_aux_lemma => kernel_rfl) (by simp) ?_
        refine AllReadyS.cons ⟨some 62, .call { callee := .value (.func 12), args := #[.tmp 61], argTypes := #[23] }, 26, _, _, none⟩ rfl (fun K hK => ?_) ?_
        focus
          go_simp
          go_at_call 12
          refine (HARR.out _).mono ?_
          rintro e nv ⟨rfl, hx⟩
          replace HSt := Lib.hid (HSt.out.step hx)
          clear hx
          try go_simp
          refine hK _ _ trivial (fun _ _ => CXK.out _ HSt.out.1) ?_
          clear hK K
          try simp only [Act.put, List.setIfInBounds_toArray, List.set_cons_zero, List.set_cons_succ]
          have c := N110.out nv _ HSt.out
          try unfold RZ at c
          rw [HF.out, HA0.out] at c
          try simp only [Act.put, List.setIfInBounds_toArray, List.set_cons_zero, List.set_cons_succ] at c
          with_reducible exact c
        refine AllReadyS.cons ⟨some 10, .alloc 35, 0, _, _, none⟩ rfl (fun K hK => ?_) AllReadyS.nil
        go_simp
        replace HSt := Lib.hid (HSt.out.alloc10)
        refine hK _ _ trivial (fun _ _ => CXK.out _ HSt.out.1) ?_
        clear hK K
        try simp only [Act.put, List.setIfInBounds_toArray, List.set_cons_zero, List.set_cons_succ]
        have c := N011.out _ _ _ HSt.out
        try unfold RZ at c
        rw [HF.out, HA0.out] at c
        try simp only [Act.put, List.setIfInBounds_toArray, List.set_cons_zero, List.set_cons_succ] at c
        with_reducible exact c)
      have N001 : Hid (∀ (v : World) (B2 : Nat), St wc v none (some B2) none none → F 7 #[true, true, false, true, false, true, true, false, false, false, true, false, false] (a0.put (some 10) (.pointer (some ⟨B2, 0, none⟩))) v) := Lib.hid (by
        intro v B2 hSt
        have HSt := Lib.hid hSt
        clear hSt
        rw [HF.out, HA0.out]
        try simp only [Act.put, List.setIfInBounds_toArray, List.set_cons_zero, List.set_cons_succ]
        skip
        refine wpAnyS_ready [2, 9] (by as_aux_lemma => kernel_rfl) (by simp) ?_
        refine AllReadyS.cons ⟨some 62, .call { callee := .value (.func 12), args := #[.tmp 61], argTypes := #[23] }, 26, _, _, none⟩ rfl (fun K hK => ?_) ?_
        focus
          go_simp
          go_at_call 12
          refine (HARR.out _).mono ?_
          rintro e nv ⟨rfl, hx⟩
          replace HSt := Lib.hid (HSt.out.step hx)
          clear hx
          try go_simp
          refine hK _ _ trivial (fun _ _ => CXK.out _ HSt.out.1) ?_
          clear hK K
          try simp only [Act.put, List.setIfInBounds_toArray, List.set_cons_zero, List.set_cons_succ]
          have c := N101.out nv _ HSt.out
          try unfold RZ at c
          rw [HF.out, HA0.out] at c
          try simp only [Act.put, List.setIfInBounds_toArray, List.set_cons_zero, List.set_cons_succ] at c
          with_reducible exact c
        refine AllReadyS.cons ⟨some 9, .alloc 35, 0, _, _, none⟩ rfl (fun K hK => ?_) AllReadyS.nil
        go_simp
        replace HSt := Lib.hid (HSt.out.alloc9)
        refine hK _ _ trivial (fun _ _ => CXK.out _ HSt.out.1) ?_
        clear hK K
        try simp only [Act.put, List.setIfInBounds_toArray, List.set_cons_zero, List.set_cons_succ]
        have c := N011.out _ _ _ HSt.out
        try unfold RZ at c
        rw [HF.out, HA0.out] at c
        try simp only [Act.put, List.setIfInBounds_toArray, List.set_cons_zero, List.set_cons_succ] at c
        with_reducible exact c)
      have N000 : Hid (∀ (v : World) , St wc v none none none none → F 8 #[true, true, false, true, false, true, true, false, false, false, false, false, false] a0 v) := Lib.hid (by
        intro v  hSt
        have HSt := Lib.hid hSt
        clear hSt
        rw [HF.out, HA0.out]
        try simp only [Act.put, List.setIfInBounds_toArray, List.set_cons_zero, List.set_cons_succ]
        skip
        refine wpAnyS_ready [2, 9, 10] (by as_aux_lemma => kernel_rfl) (by simp) ?_
        refine AllReadyS.cons ⟨some 62, .call { callee := .value (.func 12), args := #[.tmp 61], argTypes := #[23] }, 26, _, _, none⟩ rfl (fun K hK => ?_) ?_
        focus
          go_simp
          go_at_call 12
          refine (HARR.out _).mono ?_
          rintro e nv ⟨rfl, hx⟩
          replace HSt := Lib.hid (HSt.out.step hx)
          clear hx
          try go_simp
          refine hK _ _ trivial (fun _ _ => CXK.out _ HSt.out.1) ?_
          clear hK K
          try simp only [Act.put, List.setIfInBounds_toArray, List.set_cons_zero, List.set_cons_succ]
          have c := N100.out nv  HSt.out
          try unfold RZ at c
          rw [HF.out, HA0.out] at c
          try simp only [Act.put, List.setIfInBounds_toArray, List.set_cons_zero, List.set_cons_succ] at c
          with_reducible exact c
        refine AllReadyS.cons ⟨some 9, .alloc 35, 0, _, _, none⟩ rfl (fun K hK => ?_) ?_
        focus
          go_simp
          replace HSt := Lib.hid (HSt.out.alloc9)
          refine hK _ _ trivial (fun _ _ => CXK.out _ HSt.out.1) ?_
          clear hK K
          try simp only [Act.put, List.setIfInBounds_toArray, List.set_cons_zero, List.set_cons_succ]
          have c := N010.out _ _ HSt.out
          try unfold RZ at c
          rw [HF.out, HA0.out] at c
          try simp only [Act.put, List.setIfInBounds_toArray, List.set_cons_zero, List.set_cons_succ] at c
          with_reducible exact c
        refine AllReadyS.cons ⟨some 10, .alloc 35, 0, _, _, none⟩ rfl (fun K hK => ?_) AllReadyS.nil
        go_simp
        replace HSt := Lib.hid (HSt.out.alloc10)
        refine hK _ _ trivial (fun _ _ => CXK.out _ HSt.out.1) ?_
        clear hK K
        try simp only [Act.put, List.setIfInBounds_toArray, List.set_cons_zero, List.set_cons_succ]
        have c := N001.out _ _ HSt.out
        try unfold RZ at c
        rw [HF.out, HA0.out] at c
        try simp only [Act.put, List.setIfInBounds_toArray, List.set_cons_zero, List.set_cons_succ] at c
        with_reducible exact c)
      exact N000.out _ HSt.out
    case rest =>
      obtain ⟨B9, B10, r, s, qr1, qr1n, qr2, qr2n, qr3, qr3n, qs1, qs1n, qs2, qs2n, qs3, qs3n, er, es, rfl, rfl, hbw, h9, h10, hjr, hjs, hr, hs⟩ := hcut
      have hl9 := World.block_lt_of_cell? wc _ h9.c.1
      have hl10 := World.block_lt_of_cell? wc _ h10.c.1
      have HC0 := Lib.hid (Below.refl wc.heap.size wc)
      have KW := Lib.hid (fun w1 (h1 : Below wc.heap.size wc w1) => KJ.out w1 (hbw.trans (h1.mono hbw.size)))
      have HORW : Hid (∀ w1 B, Below wc.heap.size wc w1 → w1.heap[B]? = some (.cells #[.int .i64 5, .int .i64 0, .string ⟨#[]⟩, .slice qa m.length qc, .slice none 0 0, .slice none 0 0] 26) → JX w1 none none (.arr [.arr q]) (.agg #[.int .i64 5, .int .i64 0, .string ⟨#[]⟩, .slice (some ⟨B, 0, none⟩) 1 1, .slice none 0 0, .slice none 0 0])) := Lib.hid (fun w1 B h1 hb => HOR.out w1 B (hbw.trans (h1.mono hbw.size)) hb)
      have CB : Hid (∀ w1, Below wc.heap.size wc w1 → ((w1.cell? ⟨B9, 0, none⟩ = some (.int .i64 r.kind) ∧ w1.cell? ⟨B9, 1, none⟩ = some (.int .i64 r.half) ∧ w1.cell? ⟨B9, 2, none⟩ = some (.string r.text) ∧ w1.cell? ⟨B9, 3, none⟩ = some (.slice qr1 r.list.length qr1n) ∧ w1.cell? ⟨B9, 4, none⟩ = some (.slice qr2 r.keys.length qr2n) ∧ w1.cell? ⟨B9, 5, none⟩ = some (.slice qr3 r.vals.length qr3n) ∧ w1.cell? ⟨B9, 6, none⟩ = some (.int .i64 er)) ∧ (w1.cell? ⟨B10, 0, none⟩ = some (.int .i64 s.kind) ∧ w1.cell? ⟨B10, 1, none⟩ = some (.int .i64 s.half) ∧ w1.cell? ⟨B10, 2, none⟩ = some (.string s.text) ∧ w1.cell? ⟨B10, 3, none⟩ = some (.slice qs1 s.list.length qs1n) ∧ w1.cell? ⟨B10, 4, none⟩ = some (.slice qs2 s.keys.length qs2n) ∧ w1.cell? ⟨B10, 5, none⟩ = some (.slice qs3 s.vals.length qs3n) ∧ w1.cell? ⟨B10, 6, none⟩ = some (.int .i64 es)) ∧ (w1.cell? ⟨(w.heap.size + 1 + 1), 0, none⟩ = some (.int .i64 b.kind) ∧ w1.cell? ⟨(w.heap.size + 1 + 1), 1, none⟩ = some (.int .i64 b.half) ∧ w1.cell? ⟨(w.heap.size + 1 + 1), 2, none⟩ = some (.string b.text) ∧ w1.cell? ⟨(w.heap.size + 1 + 1), 3, none⟩ = some (.slice a3 b.list.length ma3) ∧ w1.cell? ⟨(w.heap.size + 1 + 1), 4, none⟩ = some (.slice b3 b.keys.length mb3) ∧ w1.cell? ⟨(w.heap.size + 1 + 1), 5, none⟩ = some (.slice c3 b.vals.length mc3)))) := Lib.hid (fun w1 h1 => ⟨Box7.c ((h1.block B9 hl9).trans h9), Box7.c ((h1.block B10 hl10).trans h10), (CXK.out w1 (hbw.trans (h1.mono hbw.size))).2.2⟩)
      have JR : Hid (∀ w1, Below wc.heap.size wc w1 → JRep w1 (allB w1) r (.agg #[.int .i64 r.kind, .int .i64 r.half, .string r.text, .slice qr1 r.list.length qr1n, .slice qr2 r.keys.length qr2n, .slice qr3 r.vals.length qr3n])) := Lib.hid (fun w1 h1 => hjr.keep (.of_below h1 (fun _ h => h)) (fun b hb => Nat.lt_of_lt_of_le hb h1.size))
      have JS : Hid (∀ w1, Below wc.heap.size wc w1 → JRep w1 (allB w1) s (.agg #[.int .i64 s.kind, .int .i64 s.half, .string s.text, .slice qs1 s.list.length qs1n, .slice qs2 s.keys.length qs2n, .slice qs3 s.vals.length qs3n])) := Lib.hid (fun w1 h1 => hjs.keep (.of_below h1 (fun _ h => h)) (fun b hb => Nat.lt_of_lt_of_le hb h1.size))
      clear hbw h9 h10 hl9 hl10 hjr hjs HSP HDP HOR
      cases ha : setJ x p b with
      | none =>
        rw [ha] at hr
        obtain ⟨rfl, rfl⟩ : r = .null ∧ er = 1 := hr
        obtain ⟨⟨r0, r1, r2, r3, r4, r5, r6⟩, ⟨s0, s1, s2, s3, s4, s5, s6⟩, ⟨z0, z1, z2, z3, z4, z5⟩⟩ := CB.out wc HC0.out
        go_wp2_with fail
        exact bodyPost_ret (v := .bool true) (by simp [results, Tryz.results8, go_sem]) rfl ⟨rfl, (KEY.out _ (KW.out _ HC0.out).1).1⟩
      | some r0 =>
        rw [ha] at hr
        obtain ⟨hrr, rfl⟩ : r = r0 ∧ er = 0 := hr
        subst hrr
        cases hb : delJ x q with
        | none =>
          rw [hb] at hs
          obtain ⟨rfl, rfl⟩ : s = .null ∧ es = 1 := hs
          obtain ⟨⟨r0, r1, r2, r3, r4, r5, r6⟩, ⟨s0, s1, s2, s3, s4, s5, s6⟩, ⟨z0, z1, z2, z3, z4, z5⟩⟩ := CB.out wc HC0.out
          go_wp2_with fail
          exact bodyPost_ret (v := .bool true) (by simp [results, Tryz.results8, go_sem]) rfl ⟨rfl, (KEY.out _ (KW.out _ HC0.out).1).1⟩
        | some s0 =>
          rw [hb] at hs
          obtain ⟨hss, rfl⟩ : s = s0 ∧ es = 0 := hs
          subst hss
          have hr1 := HSR.out r ha
          have hs1 := HSS.out s hb
          have hro : r.ok := okn_ok (n := 2001) (by unfold lim; omega) r hr1
          have hso : s.ok := okn_ok (n := 2001) (by unfold lim; omega) s hs1
          have hget : getJ r p = some b := setJ_get p x b r ha
          have hgp := fun w1 (h1 : Below wc.heap.size wc w1) => GetPath_use r p hro HFP.out.1 HFP.out.2.2 HFP.out.2.1 w1 (allB w1) (fun _ h => h) _ _ (JR.out w1 h1) (KW.out w1 h1).2.2.1
          rw [hget] at hgp
          have HGP := Lib.hid hgp
          have HGB := Lib.hid (fun w1 (h1 : Below wc.heap.size wc w1) (S2 : Nat → Prop) (g0 g1 g2 g3 g4 g5 : Value) (hS2 : ∀ b, S2 b → b < w1.heap.size) (hv : JRep w1 S2 b (.agg #[g0, g1, g2, g3, g4, g5])) => by have q := given_ok b b 0 w1 (allB w1) g0 g1 g2 g3 g4 g5 (.agg #[.int .i64 b.kind, .int .i64 b.half, .string b.text, .slice a3 b.list.length ma3, .slice b3 b.keys.length mb3, .slice c3 b.vals.length mc3]) (fit_ok HFB.out) (fit_ok HFB.out) (fun _ h => h) (hv.keep (fun _ _ => rfl) hS2) (KW.out w1 h1).2.2.2.2 (by decide); rw [cmp_ss] at q; exact q)
          have HSA : Hid (∀ a, delJ r q = some a → a.okn 2002) := Lib.hid (fun a h => delJ_okn q r a hr1 h)
          have HSB : Hid (∀ a, setJ s p b = some a → a.okn 2002) := Lib.hid (fun a h => setJ_okn (n := 2001) (by omega) p s b a (fun k hk => ⟨(HKP.out k hk).1, okn_mono (by omega) _ (HKP.out k hk).2⟩) hs1 (okn_mono (by omega) _ HFB.out) h)
          have HSD : Hid (∀ a, delJ r q = some a → setJ s p b = some a) := Lib.hid (fun a h => set_del p q x b r s a HFP.out.2.2 HFQ.out.2.2.1 (okn_mono (n := 2000) (by omega) _ HFX.out) HAP.out HFQ.out.2.2.2 ha hb h)
          have HSP2 := Lib.hid (fun w1 (h1 : Below wc.heap.size wc w1) => SetPath_use s b p hso HFP.out.1 HFP.out.2.2 (fit_ok HFB.out) (fun a h => sz_of_ok a (okn_ok (n := 2002) (by unfold lim; omega) a (HSB.out a h))) w1 (allB w1) (fun _ h => h) _ _ _ (JS.out w1 h1) (KW.out w1 h1).2.2.1 (KW.out w1 h1).2.2.2.2)
          have HDP2 := Lib.hid (fun w1 (h1 : Below wc.heap.size wc w1) (vb : Value) (hvb : JX w1 none none (.arr [.arr q]) vb) => DelPaths_use r q hro HFQ.out.1 HFQ.out.2.2.1 HFQ.out.2.2.2 (fun a h => sz_of_ok a (okn_ok (n := 2002) (by unfold lim; omega) a (HSA.out a h))) w1 (allB w1) (fun _ h => h) (.agg #[.int .i64 r.kind, .int .i64 r.half, .string r.text, .slice qr1 r.list.length qr1n, .slice qr2 r.keys.length qr2n, .slice qr3 r.vals.length qr3n]) vb (JR.out w1 h1) (by obtain ⟨So, h1, h2, _⟩ := hvb; exact h1.keep (fun _ _ => rfl) h2))
          clear hr1 hs1 hro hso hget hgp ha hb
          obtain ⟨⟨r0, r1, r2, r3, r4, r5, r6⟩, ⟨s0, s1, s2, s3, s4, s5, s6⟩, ⟨z0, z1, z2, z3, z4, z5⟩⟩ := CB.out wc HC0.out
          go_upto_region 9 with fail
          clear r0 r1 r2 r3 r4 r5 r6 s0 s1 s2 s3 s4 s5 s6 z0 z1 z2 z3 z4 z5
          have HQ0 := Lib.hid HC0.out.drew
          obtain ⟨⟨r0, r1, r2, r3, r4, r5, r6⟩, ⟨s0, s1, s2, s3, s4, s5, s6⟩, ⟨z0, z1, z2, z3, z4, z5⟩⟩ := CB.out _ HQ0.out
          go_region_held3 (fun w1 => ((w1.cell? ⟨B9, 0, none⟩ = some (.int .i64 r.kind) ∧ w1.cell? ⟨B9, 1, none⟩ = some (.int .i64 r.half) ∧ w1.cell? ⟨B9, 2, none⟩ = some (.string r.text) ∧ w1.cell? ⟨B9, 3, none⟩ = some (.slice qr1 r.list.length qr1n) ∧ w1.cell? ⟨B9, 4, none⟩ = some (.slice qr2 r.keys.length qr2n) ∧ w1.cell? ⟨B9, 5, none⟩ = some (.slice qr3 r.vals.length qr3n) ∧ w1.cell? ⟨B9, 6, none⟩ = some (.int .i64 0)) ∧ (w1.cell? ⟨B10, 0, none⟩ = some (.int .i64 s.kind) ∧ w1.cell? ⟨B10, 1, none⟩ = some (.int .i64 s.half) ∧ w1.cell? ⟨B10, 2, none⟩ = some (.string s.text) ∧ w1.cell? ⟨B10, 3, none⟩ = some (.slice qs1 s.list.length qs1n) ∧ w1.cell? ⟨B10, 4, none⟩ = some (.slice qs2 s.keys.length qs2n) ∧ w1.cell? ⟨B10, 5, none⟩ = some (.slice qs3 s.vals.length qs3n) ∧ w1.cell? ⟨B10, 6, none⟩ = some (.int .i64 0)) ∧ (w1.cell? ⟨(w.heap.size + 1 + 1), 0, none⟩ = some (.int .i64 b.kind) ∧ w1.cell? ⟨(w.heap.size + 1 + 1), 1, none⟩ = some (.int .i64 b.half) ∧ w1.cell? ⟨(w.heap.size + 1 + 1), 2, none⟩ = some (.string b.text) ∧ w1.cell? ⟨(w.heap.size + 1 + 1), 3, none⟩ = some (.slice a3 b.list.length ma3) ∧ w1.cell? ⟨(w.heap.size + 1 + 1), 4, none⟩ = some (.slice b3 b.keys.length mb3) ∧ w1.cell? ⟨(w.heap.size + 1 + 1), 5, none⟩ = some (.slice c3 b.vals.length mc3))))
            (first | with_reducible exact CB.out _ HQ0.out | with_reducible exact CB.out _ HQ1.out | with_reducible exact CB.out _ HQ2.out | with_reducible exact CB.out _ HQ3.out)
            (first
              | (go_at_call 16; (with_reducible refine (HGP.out _ HQ1.out).mono ?_); rintro e w14 ⟨k0, k1, k2, k3, k4, k5, en, zz, rfl, hx, hjj, hres⟩; obtain ⟨hzs, rfl⟩ : zz = b ∧ en = 0 := hres; subst zz; have HQ2 := Lib.hid (HQ1.out.trans (hx.mono HQ1.out.size)); clear hx; have HJ5 := Lib.hid hjj; clear hjj)
              | (go_at_call 17; (with_reducible refine (HGB.out _ HQ2.out _ _ _ _ _ _ _ since_lt HJ5.out).mono ?_); rintro e w16 ⟨rfl, hx⟩; have HQ3 := Lib.hid (HQ2.out.trans (hx.mono HQ2.out.size)); clear hx)
              | (go_at_call 12; (with_reducible refine (HARR.out _).mono ?_); rintro e w17 ⟨rfl, hx⟩; have HQ1 := Lib.hid (HQ0.out.trans (hx.mono HQ0.out.size)); clear hx))
          try clear r0 r1 r2 r3 r4 r5 r6 s0 s1 s2 s3 s4 s5 s6 z0 z1 z2 z3 z4 z5
          go_upto_region 11 with fail
          have HQW := Lib.hid HQ3.out
          obtain ⟨wk, hwk⟩ : ∃ wk, wk = w16 := ⟨_, rfl⟩
          have hb16 := HQW.out
          rw [← hwk] at hb16
          rw [← hwk]
          clear hwk
          have HBK := Lib.hid hb16
          clear hb16 HQ0 HQ1 HQ2 HQ3 HQW
          have HDPW := Lib.hid (fun w1 (h1 : Below wk.heap.size wk w1) => HDP2.out w1 (HBK.out.trans (h1.mono HBK.out.size)))
          have HSPW := Lib.hid (fun w1 (h1 : Below wk.heap.size wk w1) => HSP2.out w1 (HBK.out.trans (h1.mono HBK.out.size)))
          have HOR := Lib.hid (fun w1 B (h1 : Below wk.heap.size wk w1) => HORW.out w1 B (HBK.out.trans (h1.mono HBK.out.size)))
          have CBW := Lib.hid (fun w1 (h1 : Below wk.heap.size wk w1) => CB.out w1 (HBK.out.trans (h1.mono HBK.out.size)))
          go_cut [11, 12] (fun v9 v10 wx => ∃ (B11 B12 : Nat) (a bb : J) (qa_1 : Option Addr) (qa_1n : Nat) (qa_2 : Option Addr) (qa_2n : Nat) (qa_3 : Option Addr) (qa_3n : Nat) (qb_1 : Option Addr) (qb_1n : Nat) (qb_2 : Option Addr) (qb_2n : Nat) (qb_3 : Option Addr) (qb_3n : Nat) (ea eb : Int), v9 = .pointer (some ⟨B11, 0, none⟩) ∧ v10 = .pointer (some ⟨B12, 0, none⟩) ∧ Below wk.heap.size wk wx ∧ Box7 wx B11 a.kind a.half a.text (.slice qa_1 a.list.length qa_1n) (.slice qa_2 a.keys.length qa_2n) (.slice qa_3 a.vals.length qa_3n) ea ∧ Box7 wx B12 bb.kind bb.half bb.text (.slice qb_1 bb.list.length qb_1n) (.slice qb_2 bb.keys.length qb_2n) (.slice qb_3 bb.vals.length qb_3n) eb ∧ JRep wx (allB wx) a (.agg #[.int .i64 a.kind, .int .i64 a.half, .string a.text, .slice qa_1 a.list.length qa_1n, .slice qa_2 a.keys.length qa_2n, .slice qa_3 a.vals.length qa_3n]) ∧ JRep wx (allB wx) bb (.agg #[.int .i64 bb.kind, .int .i64 bb.half, .string bb.text, .slice qb_1 bb.list.length qb_1n, .slice qb_2 bb.keys.length qb_2n, .slice qb_3 bb.vals.length qb_3n]) ∧ ResIs (delJ r q) a ea ∧ ResIs (setJ s p b) bb eb)
          case first =>
            refine wp_region_S (fun i => decide (13 ≤ i)) (fun w1 => ((w1.cell? ⟨B9, 0, none⟩ = some (.int .i64 r.kind) ∧ w1.cell? ⟨B9, 1, none⟩ = some (.int .i64 r.half) ∧ w1.cell? ⟨B9, 2, none⟩ = some (.string r.text) ∧ w1.cell? ⟨B9, 3, none⟩ = some (.slice qr1 r.list.length qr1n) ∧ w1.cell? ⟨B9, 4, none⟩ = some (.slice qr2 r.keys.length qr2n) ∧ w1.cell? ⟨B9, 5, none⟩ = some (.slice qr3 r.vals.length qr3n) ∧ w1.cell? ⟨B9, 6, none⟩ = some (.int .i64 0)) ∧ (w1.cell? ⟨B10, 0, none⟩ = some (.int .i64 s.kind) ∧ w1.cell? ⟨B10, 1, none⟩ = some (.int .i64 s.half) ∧ w1.cell? ⟨B10, 2, none⟩ = some (.string s.text) ∧ w1.cell? ⟨B10, 3, none⟩ = some (.slice qs1 s.list.length qs1n) ∧ w1.cell? ⟨B10, 4, none⟩ = some (.slice qs2 s.keys.length qs2n) ∧ w1.cell? ⟨B10, 5, none⟩ = some (.slice qs3 s.vals.length qs3n) ∧ w1.cell? ⟨B10, 6, none⟩ = some (.int .i64 0)) ∧ (w1.cell? ⟨(w.heap.size + 1 + 1), 0, none⟩ = some (.int .i64 b.kind) ∧ w1.cell? ⟨(w.heap.size + 1 + 1), 1, none⟩ = some (.int .i64 b.half) ∧ w1.cell? ⟨(w.heap.size + 1 + 1), 2, none⟩ = some (.string b.text) ∧ w1.cell? ⟨(w.heap.size + 1 + 1), 3, none⟩ = some (.slice a3 b.list.length ma3) ∧ w1.cell? ⟨(w.heap.size + 1 + 1), 4, none⟩ = some (.slice b3 b.keys.length mb3) ∧ w1.cell? ⟨(w.heap.size + 1 + 1), 5, none⟩ = some (.slice c3 b.vals.length mc3)))) (fun _ => True) (by as_aux_lemma => kernel_rfl) ?_
            have HSt := Lib.hid (St.start wk)
            generalize wk.drew = u0 at *
            refine wpAnyS_takeU 0 ⟨some 85, .fieldAddr 35 (.tmp 9) 0, _, _, _, none⟩ (v := ?_) rfl (by as_aux_lemma => kernel_rfl) (by as_aux_lemma => kernel_rfl) (by as_aux_lemma => kernel_rfl) (by as_aux_lemma => kernel_rfl) (by as_aux_lemma => kernel_rfl) (fun _ _ _ h => h) (Or.inl ⟨by rfl, ?_⟩) ⟨trivial, CBW.out _ HSt.out.1⟩ ?_
            rotate_left
            · (intro x hx; clear hx; go_simp; try with_reducible rfl)
            try simp only [Act.put, List.setIfInBounds_toArray, List.set_cons_zero, List.set_cons_succ]
            refine wpAnyS_takeU 1 ⟨some 86, .load 26 (.tmp 85), 26, _, _, none⟩ (v := ?_) rfl (by as_aux_lemma => kernel_rfl) (by as_aux_lemma => kernel_rfl) (by as_aux_lemma => kernel_rfl) (by as_aux_lemma => kernel_rfl) (by as_aux_lemma => kernel_rfl) (fun _ _ _ h => h) (Or.inl ⟨by rfl, ?_⟩) ⟨trivial, CBW.out _ HSt.out.1⟩ ?_
            rotate_left
            · (intro x hx; obtain ⟨-, ⟨r0, r1, r2, r3, r4, r5, r6⟩, ⟨s0, s1, s2, s3, s4, s5, s6⟩, ⟨z0, z1, z2, z3, z4, z5⟩⟩ := hx; go_simp; try with_reducible rfl)
            try simp only [Act.put, List.setIfInBounds_toArray, List.set_cons_zero, List.set_cons_succ]
            refine wpAnyS_takeU 2 ⟨some 87, .move (.tmp 8), 23, _, _, none⟩ (v := ?_) rfl (by as_aux_lemma => kernel_rfl) (by as_aux_lemma => kernel_rfl) (by as_aux_lemma => kernel_rfl) (by as_aux_lemma => kernel_rfl) (by as_aux_lemma => kernel_rfl) (fun _ _ _ h => h) (Or.inl ⟨by rfl, ?_⟩) ⟨trivial, CBW.out _ HSt.out.1⟩ ?_
            rotate_left
            · (intro x hx; clear hx; go_simp; try with_reducible rfl)
            try simp only [Act.put, List.setIfInBounds_toArray, List.set_cons_zero, List.set_cons_succ]
            refine wpAnyS_takeU 5 ⟨some 90, .fieldAddr 35 (.tmp 10) 0, _, _, _, none⟩ (v := ?_) rfl (by as_aux_lemma => kernel_rfl) (by as_aux_lemma => kernel_rfl) (by as_aux_lemma => kernel_rfl) (by as_aux_lemma => kernel_rfl) (by as_aux_lemma => kernel_rfl) (fun _ _ _ h => h) (Or.inl ⟨by rfl, ?_⟩) ⟨trivial, CBW.out _ HSt.out.1⟩ ?_
            rotate_left
            · (intro x hx; clear hx; go_simp; try with_reducible rfl)
            try simp only [Act.put, List.setIfInBounds_toArray, List.set_cons_zero, List.set_cons_succ]
            refine wpAnyS_takeU 6 ⟨some 91, .load 26 (.tmp 90), 26, _, _, none⟩ (v := ?_) rfl (by as_aux_lemma => kernel_rfl) (by as_aux_lemma => kernel_rfl) (by as_aux_lemma => kernel_rfl) (by as_aux_lemma => kernel_rfl) (by as_aux_lemma => kernel_rfl) (fun _ _ _ h => h) (Or.inl ⟨by rfl, ?_⟩) ⟨trivial, CBW.out _ HSt.out.1⟩ ?_
            rotate_left
            · (intro x hx; obtain ⟨-, ⟨r0, r1, r2, r3, r4, r5, r6⟩, ⟨s0, s1, s2, s3, s4, s5, s6⟩, ⟨z0, z1, z2, z3, z4, z5⟩⟩ := hx; go_simp; try with_reducible rfl)
            try simp only [Act.put, List.setIfInBounds_toArray, List.set_cons_zero, List.set_cons_succ]
            refine wpAnyS_takeU 7 ⟨some 92, .move (.tmp 7), 23, _, _, none⟩ (v := ?_) rfl (by as_aux_lemma => kernel_rfl) (by as_aux_lemma => kernel_rfl) (by as_aux_lemma => kernel_rfl) (by as_aux_lemma => kernel_rfl) (by as_aux_lemma => kernel_rfl) (fun _ _ _ h => h) (Or.inl ⟨by rfl, ?_⟩) ⟨trivial, CBW.out _ HSt.out.1⟩ ?_
            rotate_left
            · (intro x hx; clear hx; go_simp; try with_reducible rfl)
            try simp only [Act.put, List.setIfInBounds_toArray, List.set_cons_zero, List.set_cons_succ]
            refine wpAnyS_takeU 9 ⟨some 94, .load 26 (.tmp 5), 26, _, _, none⟩ (v := ?_) rfl (by as_aux_lemma => kernel_rfl) (by as_aux_lemma => kernel_rfl) (by as_aux_lemma => kernel_rfl) (by as_aux_lemma => kernel_rfl) (by as_aux_lemma => kernel_rfl) (fun _ _ _ h => h) (Or.inl ⟨by rfl, ?_⟩) ⟨trivial, CBW.out _ HSt.out.1⟩ ?_
            rotate_left
            · (intro x hx; obtain ⟨-, ⟨r0, r1, r2, r3, r4, r5, r6⟩, ⟨s0, s1, s2, s3, s4, s5, s6⟩, ⟨z0, z1, z2, z3, z4, z5⟩⟩ := hx; go_simp; try with_reducible rfl)
            try simp only [Act.put, List.setIfInBounds_toArray, List.set_cons_zero, List.set_cons_succ]
            refine wpAnyS_named ?_
            intro F a0 hF ha0
            have HF := Lib.hid hF
            have HA0 := Lib.hid ha0
            clear hF ha0
            have N411 : Hid (∀ (v : World) (B1 : Nat) (B2 : Nat) (bb : J) (qb_1 : Option Addr) (qb_1n : Nat) (qb_2 : Option Addr) (qb_2n : Nat) (qb_3 : Option Addr) (qb_3n : Nat) (eb : Int) (a : J) (qa_1 : Option Addr) (qa_1n : Nat) (qa_2 : Option Addr) (qa_2n : Nat) (qa_3 : Option Addr) (qa_3n : Nat) (ea : Int) (Bo : Nat), St wk v (some B1) (some B2) (some (a, (.agg #[.int .i64 a.kind, .int .i64 a.half, .string a.text, .slice qa_1 a.list.length qa_1n, .slice qa_2 a.keys.length qa_2n, .slice qa_3 a.vals.length qa_3n]))) (some (bb, (.agg #[.int .i64 bb.kind, .int .i64 bb.half, .string bb.text, .slice qb_1 bb.list.length qb_1n, .slice qb_2 bb.keys.length qb_2n, .slice qb_3 bb.vals.length qb_3n]))) → ResIs (setJ s p b) bb eb → ResIs (delJ r q) a ea → F 2 #[true, true, true, true, true, true, true, true, true, true, true, true, true, false, false] ((((((a0.put (some 88) (.agg #[.int .i64 5, .int .i64 0, .string ⟨#[]⟩, .slice (some ⟨Bo, 0, none⟩) 1 1, .slice none 0 0, .slice none 0 0])).put (some 89) (.agg #[.int .i64 a.kind, .int .i64 a.half, .string a.text, .slice qa_1 a.list.length qa_1n, .slice qa_2 a.keys.length qa_2n, .slice qa_3 a.vals.length qa_3n, .int .i64 ea])).put (some 93) (.agg #[.int .i64 5, .int .i64 0, .string ⟨#[]⟩, .slice pa l.length pc, .slice none 0 0, .slice none 0 0])).put (some 95) (.agg #[.int .i64 bb.kind, .int .i64 bb.half, .string bb.text, .slice qb_1 bb.list.length qb_1n, .slice qb_2 bb.keys.length qb_2n, .slice qb_3 bb.vals.length qb_3n, .int .i64 eb])).put (some 11) (.pointer (some ⟨B1, 0, none⟩))).put (some 12) (.pointer (some ⟨B2, 0, none⟩))) v) := Lib.hid (by
              intro v B1 B2 bb qb_1 qb_1n qb_2 qb_2n qb_3 qb_3n eb a qa_1 qa_1n qa_2 qa_2n qa_3 qa_3n ea Bo hSt hr_bb hr_a
              have HSt := Lib.hid hSt
              have HRbb := Lib.hid hr_bb
              have HRa := Lib.hid hr_a
              clear hSt hr_bb hr_a
              rw [HF.out, HA0.out]
              try simp only [Act.put, List.setIfInBounds_toArray, List.set_cons_zero, List.set_cons_succ]
              skip
              refine wpAnyS_rest 13 (fun _ => trivial) rfl (by as_aux_lemma => kernel_rfl) (by as_aux_lemma => kernel_rfl) ?_
              simp only [List.drop_succ_cons, List.drop_zero]
              have hc := HSt.out.cells
              obtain ⟨r0, r1, r2, r3, r4, r5, r6⟩ := hc.1.c
              have rf := hc.1.f
              have hc2 := hc.2 (.int .i64 a.kind) (.int .i64 a.half) (.string a.text) (.slice qa_1 a.list.length qa_1n) (.slice qa_2 a.keys.length qa_2n) (.slice qa_3 a.vals.length qa_3n) (.int .i64 ea)
              obtain ⟨s0, s1, s2, s3, s4, s5, s6⟩ := hc2.c
              have sf := hc2.f
              unfold set7 set6 at s0 s1 s2 s3 s4 s5 s6 sf
              clear hc hc2
              go_wp2_with fail
              go_meet
              have hf := St.fin ea eb HSt.out rfl
              exact ⟨_, _, a, bb, qa_1, qa_1n, qa_2, qa_2n, qa_3, qa_3n, qb_1, qb_1n, qb_2, qb_2n, qb_3, qb_3n, ea, eb, rfl, rfl, hf.1, hf.2.1, hf.2.2.1, hf.2.2.2.1, hf.2.2.2.2, HRa.out, HRbb.out⟩)
            have N410 : Hid (∀ (v : World) (B1 : Nat) (bb : J) (qb_1 : Option Addr) (qb_1n : Nat) (qb_2 : Option Addr) (qb_2n : Nat) (qb_3 : Option Addr) (qb_3n : Nat) (eb : Int) (a : J) (qa_1 : Option Addr) (qa_1n : Nat) (qa_2 : Option Addr) (qa_2n : Nat) (qa_3 : Option Addr) (qa_3n : Nat) (ea : Int) (Bo : Nat), St wk v (some B1) none (some (a, (.agg #[.int .i64 a.kind, .int .i64 a.half, .string a.text, .slice qa_1 a.list.length qa_1n, .slice qa_2 a.keys.length qa_2n, .slice qa_3 a.vals.length qa_3n]))) (some (bb, (.agg #[.int .i64 bb.kind, .int .i64 bb.half, .string bb.text, .slice qb_1 bb.list.length qb_1n, .slice qb_2 bb.keys.length qb_2n, .slice qb_3 bb.vals.length qb_3n]))) → ResIs (setJ s p b) bb eb → ResIs (delJ r q) a ea → F 3 #[true, true, true, true, true, true, true, true, true, true, true, true, false, false, false] (((((a0.put (some 88) (.agg #[.int .i64 5, .int .i64 0, .string ⟨#[]⟩, .slice (some ⟨Bo, 0, none⟩) 1 1, .slice none 0 0, .slice none 0 0])).put (some 89) (.agg #[.int .i64 a.kind, .int .i64 a.half, .string a.text, .slice qa_1 a.list.length qa_1n, .slice qa_2 a.keys.length qa_2n, .slice qa_3 a.vals.length qa_3n, .int .i64 ea])).put (some 93) (.agg #[.int .i64 5, .int .i64 0, .string ⟨#[]⟩, .slice pa l.length pc, .slice none 0 0, .slice none 0 0])).put (some 95) (.agg #[.int .i64 bb.kind, .int .i64 bb.half, .string bb.text, .slice qb_1 bb.list.length qb_1n, .slice qb_2 bb.keys.length qb_2n, .slice qb_3 bb.vals.length qb_3n, .int .i64 eb])).put (some 11) (.pointer (some ⟨B1, 0, none⟩))) v) := Lib.hid (by
              intro v B1 bb qb_1 qb_1n qb_2 qb_2n qb_3 qb_3n eb a qa_1 qa_1n qa_2 qa_2n qa_3 qa_3n ea Bo hSt hr_bb hr_a
              have HSt := Lib.hid hSt
              have HRbb := Lib.hid hr_bb
              have HRa := Lib.hid hr_a
              clear hSt hr_bb hr_a
              rw [HF.out, HA0.out]
              try simp only [Act.put, List.setIfInBounds_toArray, List.set_cons_zero, List.set_cons_succ]
              skip
              refine wpAnyS_ready [12] (by as_aux_lemma => kernel_rfl) (by simp) ?_
              refine AllReadyS.cons ⟨some 12, .alloc 35, 0, _, _, none⟩ rfl (fun K hK => ?_) AllReadyS.nil
              go_simp
              replace HSt := Lib.hid (HSt.out.alloc10)
              refine hK _ _ trivial (fun _ _ => CBW.out _ HSt.out.1) ?_
              clear hK K
              try simp only [Act.put, List.setIfInBounds_toArray, List.set_cons_zero, List.set_cons_succ]
              have c := N411.out _ _ _ bb qb_1 qb_1n qb_2 qb_2n qb_3 qb_3n eb a qa_1 qa_1n qa_2 qa_2n qa_3 qa_3n ea Bo HSt.out HRbb.out HRa.out
              try unfold RZ at c
              rw [HF.out, HA0.out] at c
              try simp only [Act.put, List.setIfInBounds_toArray, List.set_cons_zero, List.set_cons_succ] at c
              with_reducible exact c)
            have N401 : Hid (∀ (v : World) (B2 : Nat) (bb : J) (qb_1 : Option Addr) (qb_1n : Nat) (qb_2 : Option Addr) (qb_2n : Nat) (qb_3 : Option Addr) (qb_3n : Nat) (eb : Int) (a : J) (qa_1 : Option Addr) (qa_1n : Nat) (qa_2 : Option Addr) (qa_2n : Nat) (qa_3 : Option Addr) (qa_3n : Nat) (ea : Int) (Bo : Nat), St wk v none (some B2) (some (a, (.agg #[.int .i64 a.kind, .int .i64 a.half, .string a.text, .slice qa_1 a.list.length qa_1n, .slice qa_2 a.keys.length qa_2n, .slice qa_3 a.vals.length qa_3n]))) (some (bb, (.agg #[.int .i64 bb.kind, .int .i64 bb.half, .string bb.text, .slice qb_1 bb.list.length qb_1n, .slice qb_2 bb.keys.length qb_2n, .slice qb_3 bb.vals.length qb_3n]))) → ResIs (setJ s p b) bb eb → ResIs (delJ r q) a ea → F 3 #[true, true, true, true, true, true, true, true, true, true, true, false, true, false, false] (((((a0.put (some 88) (.agg #[.int .i64 5, .int .i64 0, .string ⟨#[]⟩, .slice (some ⟨Bo, 0, none⟩) 1 1, .slice none 0 0, .slice none 0 0])).put (some 89) (.agg #[.int .i64 a.kind, .int .i64 a.half, .string a.text, .slice qa_1 a.list.length qa_1n, .slice qa_2 a.keys.length qa_2n, .slice qa_3 a.vals.length qa_3n, .int .i64 ea])).put (some 93) (.agg #[.int .i64 5, .int .i64 0, .string ⟨#[]⟩, .slice pa l.length pc, .slice none 0 0, .slice none 0 0])).put (some 95) (.agg #[.int .i64 bb.kind, .int .i64 bb.half, .string bb.text, .slice qb_1 bb.list.length qb_1n, .slice qb_2 bb.keys.length qb_2n, .slice qb_3 bb.vals.length qb_3n, .int .i64 eb])).put (some 12) (.pointer (some ⟨B2, 0, none⟩))) v) := Lib.hid (by
              intro v B2 bb qb_1 qb_1n qb_2 qb_2n qb_3 qb_3n eb a qa_1 qa_1n qa_2 qa_2n qa_3 qa_3n ea Bo hSt hr_bb hr_a
              have HSt := Lib.hid hSt
              have HRbb := Lib.hid hr_bb
              have HRa := Lib.hid hr_a
              clear hSt hr_bb hr_a
              rw [HF.out, HA0.out]
              try simp only [Act.put, List.setIfInBounds_toArray, List.set_cons_zero, List.set_cons_succ]
              skip
              refine wpAnyS_ready [11] (by as_aux_lemma => kernel_rfl) (by simp) ?_
              refine AllReadyS.cons ⟨some 11, .alloc 35, 0, _, _, none⟩ rfl (fun K hK => ?_) AllReadyS.nil
              go_simp
              replace HSt := Lib.hid (HSt.out.alloc9)
              refine hK _ _ trivial (fun _ _ => CBW.out _ HSt.out.1) ?_
              clear hK K
              try simp only [Act.put, List.setIfInBounds_toArray, List.set_cons_zero, List.set_cons_succ]
              have c := N411.out _ _ _ bb qb_1 qb_1n qb_2 qb_2n qb_3 qb_3n eb a qa_1 qa_1n qa_2 qa_2n qa_3 qa_3n ea Bo HSt.out HRbb.out HRa.out
              try unfold RZ at c
              rw [HF.out, HA0.out] at c
              try simp only [Act.put, List.setIfInBounds_toArray, List.set_cons_zero, List.set_cons_succ] at c
              with_reducible exact c)
            have N400 : Hid (∀ (v : World) (bb : J) (qb_1 : Option Addr) (qb_1n : Nat) (qb_2 : Option Addr) (qb_2n : Nat) (qb_3 : Option Addr) (qb_3n : Nat) (eb : Int) (a : J) (qa_1 : Option Addr) (qa_1n : Nat) (qa_2 : Option Addr) (qa_2n : Nat) (qa_3 : Option Addr) (qa_3n : Nat) (ea : Int) (Bo : Nat), St wk v none none (some (a, (.agg #[.int .i64 a.kind, .int .i64 a.half, .string a.text, .slice qa_1 a.list.length qa_1n, .slice qa_2 a.keys.length qa_2n, .slice qa_3 a.vals.length qa_3n]))) (some (bb, (.agg #[.int .i64 bb.kind, .int .i64 bb.half, .string bb.text, .slice qb_1 bb.list.length qb_1n, .slice qb_2 bb.keys.length qb_2n, .slice qb_3 bb.vals.length qb_3n]))) → ResIs (setJ s p b) bb eb → ResIs (delJ r q) a ea → F 4 #[true, true, true, true, true, true, true, true, true, true, true, false, false, false, false] ((((a0.put (some 88) (.agg #[.int .i64 5, .int .i64 0, .string ⟨#[]⟩, .slice (some ⟨Bo, 0, none⟩) 1 1, .slice none 0 0, .slice none 0 0])).put (some 89) (.agg #[.int .i64 a.kind, .int .i64 a.half, .string a.text, .slice qa_1 a.list.length qa_1n, .slice qa_2 a.keys.length qa_2n, .slice qa_3 a.vals.length qa_3n, .int .i64 ea])).put (some 93) (.agg #[.int .i64 5, .int .i64 0, .string ⟨#[]⟩, .slice pa l.length pc, .slice none 0 0, .slice none 0 0])).put (some 95) (.agg #[.int .i64 bb.kind, .int .i64 bb.half, .string bb.text, .slice qb_1 bb.list.length qb_1n, .slice qb_2 bb.keys.length qb_2n, .slice qb_3 bb.vals.length qb_3n, .int .i64 eb])) v) := Lib.hid (by
              intro v bb qb_1 qb_1n qb_2 qb_2n qb_3 qb_3n eb a qa_1 qa_1n qa_2 qa_2n qa_3 qa_3n ea Bo hSt hr_bb hr_a
              have HSt := Lib.hid hSt
              have HRbb := Lib.hid hr_bb
              have HRa := Lib.hid hr_a
              clear hSt hr_bb hr_a
              rw [HF.out, HA0.out]
              try simp only [Act.put, List.setIfInBounds_toArray, List.set_cons_zero, List.set_cons_succ]
              skip
              refine wpAnyS_ready [11, 12] (by as_aux_lemma => kernel_rfl) (by simp) ?_
              refine AllReadyS.cons ⟨some 11, .alloc 35, 0, _, _, none⟩ rfl (fun K hK => ?_) ?_
              focus
                go_simp
                replace HSt := Lib.hid (HSt.out.alloc9)
                refine hK _ _ trivial (fun _ _ => CBW.out _ HSt.out.1) ?_
                clear hK K
                try simp only [Act.put, List.setIfInBounds_toArray, List.set_cons_zero, List.set_cons_succ]
                have c := N410.out _ _ bb qb_1 qb_1n qb_2 qb_2n qb_3 qb_3n eb a qa_1 qa_1n qa_2 qa_2n qa_3 qa_3n ea Bo HSt.out HRbb.out HRa.out
                try unfold RZ at c
                rw [HF.out, HA0.out] at c
                try simp only [Act.put, List.setIfInBounds_toArray, List.set_cons_zero, List.set_cons_succ] at c
                with_reducible exact c
              refine AllReadyS.cons ⟨some 12, .alloc 35, 0, _, _, none⟩ rfl (fun K hK => ?_) AllReadyS.nil
              go_simp
              replace HSt := Lib.hid (HSt.out.alloc10)
              refine hK _ _ trivial (fun _ _ => CBW.out _ HSt.out.1) ?_
              clear hK K
              try simp only [Act.put, List.setIfInBounds_toArray, List.set_cons_zero, List.set_cons_succ]
              have c := N401.out _ _ bb qb_1 qb_1n qb_2 qb_2n qb_3 qb_3n eb a qa_1 qa_1n qa_2 qa_2n qa_3 qa_3n ea Bo HSt.out HRbb.out HRa.out
              try unfold RZ at c
              rw [HF.out, HA0.out] at c
              try simp only [Act.put, List.setIfInBounds_toArray, List.set_cons_zero, List.set_cons_succ] at c
              with_reducible exact c)
            have N311 : Hid (∀ (v : World) (B1 : Nat) (B2 : Nat) (a : J) (qa_1 : Option Addr) (qa_1n : Nat) (qa_2 : Option Addr) (qa_2n : Nat) (qa_3 : Option Addr) (qa_3n : Nat) (ea : Int) (Bo : Nat), St wk v (some B1) (some B2) (some (a, (.agg #[.int .i64 a.kind, .int .i64 a.half, .string a.text, .slice qa_1 a.list.length qa_1n, .slice qa_2 a.keys.length qa_2n, .slice qa_3 a.vals.length qa_3n]))) none → ResIs (delJ r q) a ea → F 3 #[true, true, true, true, true, true, true, true, true, true, false, true, true, false, false] (((((a0.put (some 88) (.agg #[.int .i64 5, .int .i64 0, .string ⟨#[]⟩, .slice (some ⟨Bo, 0, none⟩) 1 1, .slice none 0 0, .slice none 0 0])).put (some 89) (.agg #[.int .i64 a.kind, .int .i64 a.half, .string a.text, .slice qa_1 a.list.length qa_1n, .slice qa_2 a.keys.length qa_2n, .slice qa_3 a.vals.length qa_3n, .int .i64 ea])).put (some 93) (.agg #[.int .i64 5, .int .i64 0, .string ⟨#[]⟩, .slice pa l.length pc, .slice none 0 0, .slice none 0 0])).put (some 11) (.pointer (some ⟨B1, 0, none⟩))).put (some 12) (.pointer (some ⟨B2, 0, none⟩))) v) := Lib.hid (by
              intro v B1 B2 a qa_1 qa_1n qa_2 qa_2n qa_3 qa_3n ea Bo hSt hr_a
              have HSt := Lib.hid hSt
              have HRa := Lib.hid hr_a
              clear hSt hr_a
              rw [HF.out, HA0.out]
              try simp only [Act.put, List.setIfInBounds_toArray, List.set_cons_zero, List.set_cons_succ]
              skip
              refine wpAnyS_ready [10] (by as_aux_lemma => kernel_rfl) (by simp) ?_
              refine AllReadyS.cons ⟨some 95, .call { callee := .value (.func 30), args := #[.tmp 91, .tmp 93, .tmp 94], argTypes := #[26, 26, 26] }, 35, _, _, none⟩ rfl (fun K hK => ?_) AllReadyS.nil
              go_simp
              go_at_call 30
              refine (HSPW.out _ HSt.out.1).mono ?_
              rintro e nv ⟨g0, g1, g2, g3, g4, g5, eb, bb, rfl, hx, hj, hres⟩
              obtain ⟨qb_1, qb_1n, qb_2, qb_2n, qb_3, qb_3n, rfl, rfl, rfl, rfl, rfl, rfl⟩ := hj.cells6
              replace HSt := Lib.hid (HSt.out.call2 hx hj)
              have HRbb := Lib.hid hres
              clear hx hj hres
              try go_simp
              refine hK _ _ trivial (fun _ _ => CBW.out _ HSt.out.1) ?_
              clear hK K
              try simp only [Act.put, List.setIfInBounds_toArray, List.set_cons_zero, List.set_cons_succ]
              have c := N411.out nv _ _ bb qb_1 qb_1n qb_2 qb_2n qb_3 qb_3n eb a qa_1 qa_1n qa_2 qa_2n qa_3 qa_3n ea Bo HSt.out HRbb.out HRa.out
              try unfold RZ at c
              rw [HF.out, HA0.out] at c
              try simp only [Act.put, List.setIfInBounds_toArray, List.set_cons_zero, List.set_cons_succ] at c
              with_reducible exact c)
            have N310 : Hid (∀ (v : World) (B1 : Nat) (a : J) (qa_1 : Option Addr) (qa_1n : Nat) (qa_2 : Option Addr) (qa_2n : Nat) (qa_3 : Option Addr) (qa_3n : Nat) (ea : Int) (Bo : Nat), St wk v (some B1) none (some (a, (.agg #[.int .i64 a.kind, .int .i64 a.half, .string a.text, .slice qa_1 a.list.length qa_1n, .slice qa_2 a.keys.length qa_2n, .slice qa_3 a.vals.length qa_3n]))) none → ResIs (delJ r q) a ea → F 4 #[true, true, true, true, true, true, true, true, true, true, false, true, false, false, false] ((((a0.put (some 88) (.agg #[.int .i64 5, .int .i64 0, .string ⟨#[]⟩, .slice (some ⟨Bo, 0, none⟩) 1 1, .slice none 0 0, .slice none 0 0])).put (some 89) (.agg #[.int .i64 a.kind, .int .i64 a.half, .string a.text, .slice qa_1 a.list.length qa_1n, .slice qa_2 a.keys.length qa_2n, .slice qa_3 a.vals.length qa_3n, .int .i64 ea])).put (some 93) (.agg #[.int .i64 5, .int .i64 0, .string ⟨#[]⟩, .slice pa l.length pc, .slice none 0 0, .slice none 0 0])).put (some 11) (.pointer (some ⟨B1, 0, none⟩))) v) := Lib.hid (by
              intro v B1 a qa_1 qa_1n qa_2 qa_2n qa_3 qa_3n ea Bo hSt hr_a
              have HSt := Lib.hid hSt
              have HRa := Lib.hid hr_a
              clear hSt hr_a
              rw [HF.out, HA0.out]
              try simp only [Act.put, List.setIfInBounds_toArray, List.set_cons_zero, List.set_cons_succ]
              skip
              refine wpAnyS_ready [10, 12] (by as_aux_lemma => kernel_rfl) (by simp) ?_
              refine AllReadyS.cons ⟨some 95, .call { callee := .value (.func 30), args := #[.tmp 91, .tmp 93, .tmp 94], argTypes := #[26, 26, 26] }, 35, _, _, none⟩ rfl (fun K hK => ?_) ?_
              focus
                go_simp
                go_at_call 30
                refine (HSPW.out _ HSt.out.1).mono ?_
                rintro e nv ⟨g0, g1, g2, g3, g4, g5, eb, bb, rfl, hx, hj, hres⟩
                obtain ⟨qb_1, qb_1n, qb_2, qb_2n, qb_3, qb_3n, rfl, rfl, rfl, rfl, rfl, rfl⟩ := hj.cells6
                replace HSt := Lib.hid (HSt.out.call2 hx hj)
                have HRbb := Lib.hid hres
                clear hx hj hres
                try go_simp
                refine hK _ _ trivial (fun _ _ => CBW.out _ HSt.out.1) ?_
                clear hK K
                try simp only [Act.put, List.setIfInBounds_toArray, List.set_cons_zero, List.set_cons_succ]
                have c := N410.out nv _ bb qb_1 qb_1n qb_2 qb_2n qb_3 qb_3n eb a qa_1 qa_1n qa_2 qa_2n qa_3 qa_3n ea Bo HSt.out HRbb.out HRa.out
                try unfold RZ at c
                rw [HF.out, HA0.out] at c
                try simp only [Act.put, List.setIfInBounds_toArray, List.set_cons_zero, List.set_cons_succ] at c
                with_reducible exact c
              refine AllReadyS.cons ⟨some 12, .alloc 35, 0, _, _, none⟩ rfl (fun K hK => ?_) AllReadyS.nil
              go_simp
              replace HSt := Lib.hid (HSt.out.alloc10)
              refine hK _ _ trivial (fun _ _ => CBW.out _ HSt.out.1) ?_
              clear hK K
              try simp only [Act.put, List.setIfInBounds_toArray, List.set_cons_zero, List.set_cons_succ]
              have c := N311.out _ _ _ a qa_1 qa_1n qa_2 qa_2n qa_3 qa_3n ea Bo HSt.out HRa.out
              try unfold RZ at c
              rw [HF.out, HA0.out] at c
              try simp only [Act.put, List.setIfInBounds_toArray, List.set_cons_zero, List.set_cons_succ] at c
              with_reducible exact c)
            have N301 : Hid (∀ (v : World) (B2 : Nat) (a : J) (qa_1 : Option Addr) (qa_1n : Nat) (qa_2 : Option Addr) (qa_2n : Nat) (qa_3 : Option Addr) (qa_3n : Nat) (ea : Int) (Bo : Nat), St wk v none (some B2) (some (a, (.agg #[.int .i64 a.kind, .int .i64 a.half, .string a.text, .slice qa_1 a.list.length qa_1n, .slice qa_2 a.keys.length qa_2n, .slice qa_3 a.vals.length qa_3n]))) none → ResIs (delJ r q) a ea → F 4 #[true, true, true, true, true, true, true, true, true, true, false, false, true, false, false] ((((a0.put (some 88) (.agg #[.int .i64 5, .int .i64 0, .string ⟨#[]⟩, .slice (some ⟨Bo, 0, none⟩) 1 1, .slice none 0 0, .slice none 0 0])).put (some 89) (.agg #[.int .i64 a.kind, .int .i64 a.half, .string a.text, .slice qa_1 a.list.length qa_1n, .slice qa_2 a.keys.length qa_2n, .slice qa_3 a.vals.length qa_3n, .int .i64 ea])).put (some 93) (.agg #[.int .i64 5, .int .i64 0, .string ⟨#[]⟩, .slice pa l.length pc, .slice none 0 0, .slice none 0 0])).put (some 12) (.pointer (some ⟨B2, 0, none⟩))) v) := Lib.hid (by
              intro v B2 a qa_1 qa_1n qa_2 qa_2n qa_3 qa_3n ea Bo hSt hr_a
              have HSt := Lib.hid hSt
              have HRa := Lib.hid hr_a
              clear hSt hr_a
              rw [HF.out, HA0.out]
              try simp only [Act.put, List.setIfInBounds_toArray, List.set_cons_zero, List.set_cons_succ]
              skip
              refine wpAnyS_ready [10, 11] (by as_aux_lemma => kernel_rfl) (by simp) ?_
              refine AllReadyS.cons ⟨some 95, .call { callee := .value (.func 30), args := #[.tmp 91, .tmp 93, .tmp 94], argTypes := #[26, 26, 26] }, 35, _, _, none⟩ rfl (fun K hK => ?_) ?_
              focus
                go_simp
                go_at_call 30
                refine (HSPW.out _ HSt.out.1).mono ?_
                rintro e nv ⟨g0, g1, g2, g3, g4, g5, eb, bb, rfl, hx, hj, hres⟩
                obtain ⟨qb_1, qb_1n, qb_2, qb_2n, qb_3, qb_3n, rfl, rfl, rfl, rfl, rfl, rfl⟩ := hj.cells6
                replace HSt := Lib.hid (HSt.out.call2 hx hj)
                have HRbb := Lib.hid hres
                clear hx hj hres
                try go_simp
                refine hK _ _ trivial (fun _ _ => CBW.out _ HSt.out.1) ?_
                clear hK K
                try simp only [Act.put, List.setIfInBounds_toArray, List.set_cons_zero, List.set_cons_succ]
                have c := N401.out nv _ bb qb_1 qb_1n qb_2 qb_2n qb_3 qb_3n eb a qa_1 qa_1n qa_2 qa_2n qa_3 qa_3n ea Bo HSt.out HRbb.out HRa.out
                try unfold RZ at c
                rw [HF.out, HA0.out] at c
                try simp only [Act.put, List.setIfInBounds_toArray, List.set_cons_zero, List.set_cons_succ] at c
                with_reducible exact c
              refine AllReadyS.cons ⟨some 11, .alloc 35, 0, _, _, none⟩ rfl (fun K hK => ?_) AllReadyS.nil
              go_simp
              replace HSt := Lib.hid (HSt.out.alloc9)
              refine hK _ _ trivial (fun _ _ => CBW.out _ HSt.out.1) ?_
              clear hK K
              try simp only [Act.put, List.setIfInBounds_toArray, List.set_cons_zero, List.set_cons_succ]
              have c := N311.out _ _ _ a qa_1 qa_1n qa_2 qa_2n qa_3 qa_3n ea Bo HSt.out HRa.out
              try unfold RZ at c
              rw [HF.out, HA0.out] at c
              try simp only [Act.put, List.setIfInBounds_toArray, List.set_cons_zero, List.set_cons_succ] at c
              with_reducible exact c)
            have N300 : Hid (∀ (v : World) (a : J) (qa_1 : Option Addr) (qa_1n : Nat) (qa_2 : Option Addr) (qa_2n : Nat) (qa_3 : Option Addr) (qa_3n : Nat) (ea : Int) (Bo : Nat), St wk v none none (some (a, (.agg #[.int .i64 a.kind, .int .i64 a.half, .string a.text, .slice qa_1 a.list.length qa_1n, .slice qa_2 a.keys.length qa_2n, .slice qa_3 a.vals.length qa_3n]))) none → ResIs (delJ r q) a ea → F 5 #[true, true, true, true, true, true, true, true, true, true, false, false, false, false, false] (((a0.put (some 88) (.agg #[.int .i64 5, .int .i64 0, .string ⟨#[]⟩, .slice (some ⟨Bo, 0, none⟩) 1 1, .slice none 0 0, .slice none 0 0])).put (some 89) (.agg #[.int .i64 a.kind, .int .i64 a.half, .string a.text, .slice qa_1 a.list.length qa_1n, .slice qa_2 a.keys.length qa_2n, .slice qa_3 a.vals.length qa_3n, .int .i64 ea])).put (some 93) (.agg #[.int .i64 5, .int .i64 0, .string ⟨#[]⟩, .slice pa l.length pc, .slice none 0 0, .slice none 0 0])) v) := Lib.hid (by
              intro v a qa_1 qa_1n qa_2 qa_2n qa_3 qa_3n ea Bo hSt hr_a
              have HSt := Lib.hid hSt
              have HRa := Lib.hid hr_a
              clear hSt hr_a
              rw [HF.out, HA0.out]
              try simp only [Act.put, List.setIfInBounds_toArray, List.set_cons_zero, List.set_cons_succ]
              skip
              refine wpAnyS_ready [10, 11, 12] (by as_aux_lemma => kernel_rfl) (by simp) ?_
              refine AllReadyS.cons ⟨some 95, .call { callee := .value (.func 30), args := #[.tmp 91, .tmp 93, .tmp 94], argTypes := #[26, 26, 26] }, 35, _, _, none⟩ rfl (fun K hK => ?_) ?_
              focus
                go_simp
                go_at_call 30
                refine (HSPW.out _ HSt.out.1).mono ?_
                rintro e nv ⟨g0, g1, g2, g3, g4, g5, eb, bb, rfl, hx, hj, hres⟩
                obtain ⟨qb_1, qb_1n, qb_2, qb_2n, qb_3, qb_3n, rfl, rfl, rfl, rfl, rfl, rfl⟩ := hj.cells6
                replace HSt := Lib.hid (HSt.out.call2 hx hj)
                have HRbb := Lib.hid hres
                clear hx hj hres
                try go_simp
                refine hK _ _ trivial (fun _ _ => CBW.out _ HSt.out.1) ?_
                clear hK K
                try simp only [Act.put, List.setIfInBounds_toArray, List.set_cons_zero, List.set_cons_succ]
                have c := N400.out nv bb qb_1 qb_1n qb_2 qb_2n qb_3 qb_3n eb a qa_1 qa_1n qa_2 qa_2n qa_3 qa_3n ea Bo HSt.out HRbb.out HRa.out
                try unfold RZ at c
                rw [HF.out, HA0.out] at c
                try simp only [Act.put, List.setIfInBounds_toArray, List.set_cons_zero, List.set_cons_succ] at c
                with_reducible exact c
              refine AllReadyS.cons ⟨some 11, .alloc 35, 0, _, _, none⟩ rfl (fun K hK => ?_) ?_
              focus
                go_simp
                replace HSt := Lib.hid (HSt.out.alloc9)
                refine hK _ _ trivial (fun _ _ => CBW.out _ HSt.out.1) ?_
                clear hK K
                try simp only [Act.put, List.setIfInBounds_toArray, List.set_cons_zero, List.set_cons_succ]
                have c := N310.out _ _ a qa_1 qa_1n qa_2 qa_2n qa_3 qa_3n ea Bo HSt.out HRa.out
                try unfold RZ at c
                rw [HF.out, HA0.out] at c
                try simp only [Act.put, List.setIfInBounds_toArray, List.set_cons_zero, List.set_cons_succ] at c
                with_reducible exact c
              refine AllReadyS.cons ⟨some 12, .alloc 35, 0, _, _, none⟩ rfl (fun K hK => ?_) AllReadyS.nil
              go_simp
              replace HSt := Lib.hid (HSt.out.alloc10)
              refine hK _ _ trivial (fun _ _ => CBW.out _ HSt.out.1) ?_
              clear hK K
              try simp only [Act.put, List.setIfInBounds_toArray, List.set_cons_zero, List.set_cons_succ]
              have c := N301.out _ _ a qa_1 qa_1n qa_2 qa_2n qa_3 qa_3n ea Bo HSt.out HRa.out
              try unfold RZ at c
              rw [HF.out, HA0.out] at c
              try simp only [Act.put, List.setIfInBounds_toArray, List.set_cons_zero, List.set_cons_succ] at c
              with_reducible exact c)
            have N211 : Hid (∀ (v : World) (B1 : Nat) (B2 : Nat) (a : J) (qa_1 : Option Addr) (qa_1n : Nat) (qa_2 : Option Addr) (qa_2n : Nat) (qa_3 : Option Addr) (qa_3n : Nat) (ea : Int) (Bo : Nat), St wk v (some B1) (some B2) (some (a, (.agg #[.int .i64 a.kind, .int .i64 a.half, .string a.text, .slice qa_1 a.list.length qa_1n, .slice qa_2 a.keys.length qa_2n, .slice qa_3 a.vals.length qa_3n]))) none → ResIs (delJ r q) a ea → F 4 #[true, true, true, true, true, true, true, true, false, true, false, true, true, false, false] ((((a0.put (some 88) (.agg #[.int .i64 5, .int .i64 0, .string ⟨#[]⟩, .slice (some ⟨Bo, 0, none⟩) 1 1, .slice none 0 0, .slice none 0 0])).put (some 89) (.agg #[.int .i64 a.kind, .int .i64 a.half, .string a.text, .slice qa_1 a.list.length qa_1n, .slice qa_2 a.keys.length qa_2n, .slice qa_3 a.vals.length qa_3n, .int .i64 ea])).put (some 11) (.pointer (some ⟨B1, 0, none⟩))).put (some 12) (.pointer (some ⟨B2, 0, none⟩))) v) := Lib.hid (by
              intro v B1 B2 a qa_1 qa_1n qa_2 qa_2n qa_3 qa_3n ea Bo hSt hr_a
              have HSt := Lib.hid hSt
              have HRa := Lib.hid hr_a
              clear hSt hr_a
              rw [HF.out, HA0.out]
              try simp only [Act.put, List.setIfInBounds_toArray, List.set_cons_zero, List.set_cons_succ]
              skip
              refine wpAnyS_ready [8] (by as_aux_lemma => kernel_rfl) (by simp) ?_
              refine AllReadyS.cons ⟨some 93, .call { callee := .value (.func 12), args := #[.tmp 92], argTypes := #[23] }, 26, _, _, none⟩ rfl (fun K hK => ?_) AllReadyS.nil
              go_simp
              go_at_call 12
              refine (HARR.out _).mono ?_
              rintro e nv ⟨rfl, hx⟩
              replace HSt := Lib.hid (HSt.out.step hx)
              clear hx
              try go_simp
              refine hK _ _ trivial (fun _ _ => CBW.out _ HSt.out.1) ?_
              clear hK K
              try simp only [Act.put, List.setIfInBounds_toArray, List.set_cons_zero, List.set_cons_succ]
              have c := N311.out nv _ _ a qa_1 qa_1n qa_2 qa_2n qa_3 qa_3n ea Bo HSt.out HRa.out
              try unfold RZ at c
              rw [HF.out, HA0.out] at c
              try simp only [Act.put, List.setIfInBounds_toArray, List.set_cons_zero, List.set_cons_succ] at c
              with_reducible exact c)
            have N210 : Hid (∀ (v : World) (B1 : Nat) (a : J) (qa_1 : Option Addr) (qa_1n : Nat) (qa_2 : Option Addr) (qa_2n : Nat) (qa_3 : Option Addr) (qa_3n : Nat) (ea : Int) (Bo : Nat), St wk v (some B1) none (some (a, (.agg #[.int .i64 a.kind, .int .i64 a.half, .string a.text, .slice qa_1 a.list.length qa_1n, .slice qa_2 a.keys.length qa_2n, .slice qa_3 a.vals.length qa_3n]))) none → ResIs (delJ r q) a ea → F 5 #[true, true, true, true, true, true, true, true, false, true, false, true, false, false, false] (((a0.put (some 88) (.agg #[.int .i64 5, .int .i64 0, .string ⟨#[]⟩, .slice (some ⟨Bo, 0, none⟩) 1 1, .slice none 0 0, .slice none 0 0])).put (some 89) (.agg #[.int .i64 a.kind, .int .i64 a.half, .string a.text, .slice qa_1 a.list.length qa_1n, .slice qa_2 a.keys.length qa_2n, .slice qa_3 a.vals.length qa_3n, .int .i64 ea])).put (some 11) (.pointer (some ⟨B1, 0, none⟩))) v) := Lib.hid (by
              intro v B1 a qa_1 qa_1n qa_2 qa_2n qa_3 qa_3n ea Bo hSt hr_a
              have HSt := Lib.hid hSt
              have HRa := Lib.hid hr_a
              clear hSt hr_a
              rw [HF.out, HA0.out]
              try simp only [Act.put, List.setIfInBounds_toArray, List.set_cons_zero, List.set_cons_succ]
              skip
              refine wpAnyS_ready [8, 12] (by as_aux_lemma => kernel_rfl) (by simp) ?_
              refine AllReadyS.cons ⟨some 93, .call { callee := .value (.func 12), args := #[.tmp 92], argTypes := #[23] }, 26, _, _, none⟩ rfl (fun K hK => ?_) ?_
              focus
                go_simp
                go_at_call 12
                refine (HARR.out _).mono ?_
                rintro e nv ⟨rfl, hx⟩
                replace HSt := Lib.hid (HSt.out.step hx)
                clear hx
                try go_simp
                refine hK _ _ trivial (fun _ _ => CBW.out _ HSt.out.1) ?_
                clear hK K
                try simp only [Act.put, List.setIfInBounds_toArray, List.set_cons_zero, List.set_cons_succ]
                have c := N310.out nv _ a qa_1 qa_1n qa_2 qa_2n qa_3 qa_3n ea Bo HSt.out HRa.out
                try unfold RZ at c
                rw [HF.out, HA0.out] at c
                try simp only [Act.put, List.setIfInBounds_toArray, List.set_cons_zero, List.set_cons_succ] at c
                with_reducible exact c
              refine AllReadyS.cons ⟨some 12, .alloc 35, 0, _, _, none⟩ rfl (fun K hK => ?_) AllReadyS.nil
              go_simp
              replace HSt := Lib.hid (HSt.out.alloc10)
              refine hK _ _ trivial (fun _ _ => CBW.out _ HSt.out.1) ?_
              clear hK K
              try simp only [Act.put, List.setIfInBounds_toArray, List.set_cons_zero, List.set_cons_succ]
              have c := N211.out _ _ _ a qa_1 qa_1n qa_2 qa_2n qa_3 qa_3n ea Bo HSt.out HRa.out
              try unfold RZ at c
              rw [HF.out, HA0.out] at c
              try simp only [Act.put, List.setIfInBounds_toArray, List.set_cons_zero, List.set_cons_succ] at c
              with_reducible exact c)
            have N201 : Hid (∀ (v : World) (B2 : Nat) (a : J) (qa_1 : Option Addr) (qa_1n : Nat) (qa_2 : Option Addr) (qa_2n : Nat) (qa_3 : Option Addr) (qa_3n : Nat) (ea : Int) (Bo : Nat), St wk v none (some B2) (some (a, (.agg #[.int .i64 a.kind, .int .i64 a.half, .string a.text, .slice qa_1 a.list.length qa_1n, .slice qa_2 a.keys.length qa_2n, .slice qa_3 a.vals.length qa_3n]))) none → ResIs (delJ r q) a ea → F 5 #[true, true, true, true, true, true, true, true, false, true, false, false, true, false, false] (((a0.put (some 88) (.agg #[.int .i64 5, .int .i64 0, .string ⟨#[]⟩, .slice (some ⟨Bo, 0, none⟩) 1 1, .slice none 0 0, .slice none 0 0])).put (some 89) (.agg #[.int .i64 a.kind, .int .i64 a.half, .string a.text, .slice qa_1 a.list.length qa_1n, .slice qa_2 a.keys.length qa_2n, .slice qa_3 a.vals.length qa_3n, .int .i64 ea])).put (some 12) (.pointer (some ⟨B2, 0, none⟩))) v) := Lib.hid (by
              intro v B2 a qa_1 qa_1n qa_2 qa_2n qa_3 qa_3n ea Bo hSt hr_a
              have HSt := Lib.hid hSt
              have HRa := Lib.hid hr_a
              clear hSt hr_a
              rw [HF.out, HA0.out]
              try simp only [Act.put, List.setIfInBounds_toArray, List.set_cons_zero, List.set_cons_succ]
              skip
              refine wpAnyS_ready [8, 11] (by as_aux_lemma => kernel_rfl) (by simp) ?_
              refine AllReadyS.cons ⟨some 93, .call { callee := .value (.func 12), args := #[.tmp 92], argTypes := #[23] }, 26, _, _, none⟩ rfl (fun K hK => ?_) ?_
              focus
                go_simp
                go_at_call 12
                refine (HARR.out _).mono ?_
                rintro e nv ⟨rfl, hx⟩
                replace HSt := Lib.hid (HSt.out.step hx)
                clear hx
                try go_simp
                refine hK _ _ trivial (fun _ _ => CBW.out _ HSt.out.1) ?_
                clear hK K
                try simp only [Act.put, List.setIfInBounds_toArray, List.set_cons_zero, List.set_cons_succ]
                have c := N301.out nv _ a qa_1 qa_1n qa_2 qa_2n qa_3 qa_3n ea Bo HSt.out HRa.out
                try unfold RZ at c
                rw [HF.out, HA0.out] at c
                try simp only [Act.put, List.setIfInBounds_toArray, List.set_cons_zero, List.set_cons_succ] at c
                with_reducible exact c
              refine AllReadyS.cons ⟨some 11, .alloc 35, 0, _, _, none⟩ rfl (fun K hK => ?_) AllReadyS.nil
              go_simp
              replace HSt := Lib.hid (HSt.out.alloc9)
              refine hK _ _ trivial (fun _ _ => CBW.out _ HSt.out.1) ?_
              clear hK K
              try simp only [Act.put, List.setIfInBounds_toArray, List.set_cons_zero, List.set_cons_succ]
              have c := N211.out _ _ _ a qa_1 qa_1n qa_2 qa_2n qa_3 qa_3n ea Bo HSt.out HRa.out
              try unfold RZ at c
              rw [HF.out, HA0.out] at c
              try simp only [Act.put, List.setIfInBounds_toArray, List.set_cons_zero, List.set_cons_succ] at c
              with_reducible exact c)
            have N200 : Hid (∀ (v : World) (a : J) (qa_1 : Option Addr) (qa_1n : Nat) (qa_2 : Option Addr) (qa_2n : Nat) (qa_3 : Option Addr) (qa_3n : Nat) (ea : Int) (Bo : Nat), St wk v none none (some (a, (.agg #[.int .i64 a.kind, .int .i64 a.half, .string a.text, .slice qa_1 a.list.length qa_1n, .slice qa_2 a.keys.length qa_2n, .slice qa_3 a.vals.length qa_3n]))) none → ResIs (delJ r q) a ea → F 6 #[true, true, true, true, true, true, true, true, false, true, false, false, false, false, false] ((a0.put (some 88) (.agg #[.int .i64 5, .int .i64 0, .string ⟨#[]⟩, .slice (some ⟨Bo, 0, none⟩) 1 1, .slice none 0 0, .slice none 0 0])).put (some 89) (.agg #[.int .i64 a.kind, .int .i64 a.half, .string a.text, .slice qa_1 a.list.length qa_1n, .slice qa_2 a.keys.length qa_2n, .slice qa_3 a.vals.length qa_3n, .int .i64 ea])) v) := Lib.hid (by
              intro v a qa_1 qa_1n qa_2 qa_2n qa_3 qa_3n ea Bo hSt hr_a
              have HSt := Lib.hid hSt
              have HRa := Lib.hid hr_a
              clear hSt hr_a
              rw [HF.out, HA0.out]
              try simp only [Act.put, List.setIfInBounds_toArray, List.set_cons_zero, List.set_cons_succ]
              skip
              refine wpAnyS_ready [8, 11, 12] (by as_aux_lemma => kernel_rfl) (by simp) ?_
              refine AllReadyS.cons ⟨some 93, .call { callee := .value (.func 12), args := #[.tmp 92], argTypes := #[23] }, 26, _, _, none⟩ rfl (fun K hK => ?_) ?_
              focus
                go_simp
                go_at_call 12
                refine (HARR.out _).mono ?_
                rintro e nv ⟨rfl, hx⟩
                replace HSt := Lib.hid (HSt.out.step hx)
                clear hx
                try go_simp
                refine hK _ _ trivial (fun _ _ => CBW.out _ HSt.out.1) ?_
                clear hK K
                try simp only [Act.put, List.setIfInBounds_toArray, List.set_cons_zero, List.set_cons_succ]
                have c := N300.out nv a qa_1 qa_1n qa_2 qa_2n qa_3 qa_3n ea Bo HSt.out HRa.out
                try unfold RZ at c
                rw [HF.out, HA0.out] at c
                try simp only [Act.put, List.setIfInBounds_toArray, List.set_cons_zero, List.set_cons_succ] at c
                with_reducible exact c
              refine AllReadyS.cons ⟨some 11, .alloc 35, 0, _, _, none⟩ rfl (fun K hK => ?_) ?_
              focus
                go_simp
                replace HSt := Lib.hid (HSt.out.alloc9)
                refine hK _ _ trivial (fun _ _ => CBW.out _ HSt.out.1) ?_
                clear hK K
                try simp only [Act.put, List.setIfInBounds_toArray, List.set_cons_zero, List.set_cons_succ]
                have c := N210.out _ _ a qa_1 qa_1n qa_2 qa_2n qa_3 qa_3n ea Bo HSt.out HRa.out
                try unfold RZ at c
                rw [HF.out, HA0.out] at c
                try simp only [Act.put, List.setIfInBounds_toArray, List.set_cons_zero, List.set_cons_succ] at c
                with_reducible exact c
              refine AllReadyS.cons ⟨some 12, .alloc 35, 0, _, _, none⟩ rfl (fun K hK => ?_) AllReadyS.nil
              go_simp
              replace HSt := Lib.hid (HSt.out.alloc10)
              refine hK _ _ trivial (fun _ _ => CBW.out _ HSt.out.1) ?_
              clear hK K
              try simp only [Act.put, List.setIfInBounds_toArray, List.set_cons_zero, List.set_cons_succ]
              have c := N201.out _ _ a qa_1 qa_1n qa_2 qa_2n qa_3 qa_3n ea Bo HSt.out HRa.out
              try unfold RZ at c
              rw [HF.out, HA0.out] at c
              try simp only [Act.put, List.setIfInBounds_toArray, List.set_cons_zero, List.set_cons_succ] at c
              with_reducible exact c)
            have N111 : Hid (∀ (v : World) (B1 : Nat) (B2 : Nat) (Bo : Nat), St wk v (some B1) (some B2) none none → JX v none none (.arr [.arr q]) (.agg #[.int .i64 5, .int .i64 0, .string ⟨#[]⟩, .slice (some ⟨Bo, 0, none⟩) 1 1, .slice none 0 0, .slice none 0 0]) → F 5 #[true, true, true, true, false, true, true, true, false, true, false, true, true, false, false] (((a0.put (some 88) (.agg #[.int .i64 5, .int .i64 0, .string ⟨#[]⟩, .slice (some ⟨Bo, 0, none⟩) 1 1, .slice none 0 0, .slice none 0 0])).put (some 11) (.pointer (some ⟨B1, 0, none⟩))).put (some 12) (.pointer (some ⟨B2, 0, none⟩))) v) := Lib.hid (by
              intro v B1 B2 Bo hSt hO
              have HSt := Lib.hid hSt
              have HO := Lib.hid hO
              clear hSt hO
              rw [HF.out, HA0.out]
              try simp only [Act.put, List.setIfInBounds_toArray, List.set_cons_zero, List.set_cons_succ]
              skip
              refine wpAnyS_ready [4] (by as_aux_lemma => kernel_rfl) (by simp) ?_
              refine AllReadyS.cons ⟨some 89, .call { callee := .value (.func 37), args := #[.tmp 86, .tmp 88], argTypes := #[26, 26] }, 35, _, _, none⟩ rfl (fun K hK => ?_) AllReadyS.nil
              go_simp
              go_at_call 37
              refine (HDPW.out _ HSt.out.1 _ HO.out).mono ?_
              rintro e nv ⟨g0, g1, g2, g3, g4, g5, ea, a, rfl, hx, hj, hres⟩
              obtain ⟨qa_1, qa_1n, qa_2, qa_2n, qa_3, qa_3n, rfl, rfl, rfl, rfl, rfl, rfl⟩ := hj.cells6
              replace HSt := Lib.hid (HSt.out.call1 hx hj)
              have HRa := Lib.hid hres
              clear hx hj hres HO
              try go_simp
              refine hK _ _ trivial (fun _ _ => CBW.out _ HSt.out.1) ?_
              clear hK K
              try simp only [Act.put, List.setIfInBounds_toArray, List.set_cons_zero, List.set_cons_succ]
              have c := N211.out nv _ _ a qa_1 qa_1n qa_2 qa_2n qa_3 qa_3n ea Bo HSt.out HRa.out
              try unfold RZ at c
              rw [HF.out, HA0.out] at c
              try simp only [Act.put, List.setIfInBounds_toArray, List.set_cons_zero, List.set_cons_succ] at c
              with_reducible exact c)
            have N110 : Hid (∀ (v : World) (B1 : Nat) (Bo : Nat), St wk v (some B1) none none none → JX v none none (.arr [.arr q]) (.agg #[.int .i64 5, .int .i64 0, .string ⟨#[]⟩, .slice (some ⟨Bo, 0, none⟩) 1 1, .slice none 0 0, .slice none 0 0]) → F 6 #[true, true, true, true, false, true, true, true, false, true, false, true, false, false, false] ((a0.put (some 88) (.agg #[.int .i64 5, .int .i64 0, .string ⟨#[]⟩, .slice (some ⟨Bo, 0, none⟩) 1 1, .slice none 0 0, .slice none 0 0])).put (some 11) (.pointer (some ⟨B1, 0, none⟩))) v) := Lib.hid (by
              intro v B1 Bo hSt hO
              have HSt := Lib.hid hSt
              have HO := Lib.hid hO
              clear hSt hO
              rw [HF.out, HA0.out]
              try simp only [Act.put, List.setIfInBounds_toArray, List.set_cons_zero, List.set_cons_succ]
              skip
              refine wpAnyS_ready [4, 12] (by as_aux_lemma => kernel_rfl) (by simp) ?_
              refine AllReadyS.cons ⟨some 89, .call { callee := .value (.func 37), args := #[.tmp 86, .tmp 88], argTypes := #[26, 26] }, 35, _, _, none⟩ rfl (fun K hK => ?_) ?_
              focus
                go_simp
                go_at_call 37
                refine (HDPW.out _ HSt.out.1 _ HO.out).mono ?_
                rintro e nv ⟨g0, g1, g2, g3, g4, g5, ea, a, rfl, hx, hj, hres⟩
                obtain ⟨qa_1, qa_1n, qa_2, qa_2n, qa_3, qa_3n, rfl, rfl, rfl, rfl, rfl, rfl⟩ := hj.cells6
                replace HSt := Lib.hid (HSt.out.call1 hx hj)
                have HRa := Lib.hid hres
                clear hx hj hres HO
                try go_simp
                refine hK _ _ trivial (fun _ _ => CBW.out _ HSt.out.1) ?_
                clear hK K
                try simp only [Act.put, List.setIfInBounds_toArray, List.set_cons_zero, List.set_cons_succ]
                have c := N210.out nv _ a qa_1 qa_1n qa_2 qa_2n qa_3 qa_3n ea Bo HSt.out HRa.out
                try unfold RZ at c
                rw [HF.out, HA0.out] at c
                try simp only [Act.put, List.setIfInBounds_toArray, List.set_cons_zero, List.set_cons_succ] at c
                with_reducible exact c
              refine AllReadyS.cons ⟨some 12, .alloc 35, 0, _, _, none⟩ rfl (fun K hK => ?_) AllReadyS.nil
              go_simp
              replace HSt := Lib.hid (HSt.out.alloc10)
              replace HO := Lib.hid (HO.out.step (below1 _ RZ))
              refine hK _ _ trivial (fun _ _ => CBW.out _ HSt.out.1) ?_
              clear hK K
              try simp only [Act.put, List.setIfInBounds_toArray, List.set_cons_zero, List.set_cons_succ]
              have c := N111.out _ _ _ Bo HSt.out HO.out
              try unfold RZ at c
              rw [HF.out, HA0.out] at c
              try simp only [Act.put, List.setIfInBounds_toArray, List.set_cons_zero, List.set_cons_succ] at c
              with_reducible exact c)
            have N101 : Hid (∀ (v : World) (B2 : Nat) (Bo : Nat), St wk v none (some B2) none none → JX v none none (.arr [.arr q]) (.agg #[.int .i64 5, .int .i64 0, .string ⟨#[]⟩, .slice (some ⟨Bo, 0, none⟩) 1 1, .slice none 0 0, .slice none 0 0]) → F 6 #[true, true, true, true, false, true, true, true, false, true, false, false, true, false, false] ((a0.put (some 88) (.agg #[.int .i64 5, .int .i64 0, .string ⟨#[]⟩, .slice (some ⟨Bo, 0, none⟩) 1 1, .slice none 0 0, .slice none 0 0])).put (some 12) (.pointer (some ⟨B2, 0, none⟩))) v) := Lib.hid (by
              intro v B2 Bo hSt hO
              have HSt := Lib.hid hSt
              have HO := Lib.hid hO
              clear hSt hO
              rw [HF.out, HA0.out]
              try simp only [Act.put, List.setIfInBounds_toArray, List.set_cons_zero, List.set_cons_succ]
              skip
              refine wpAnyS_ready [4, 11] (by as_aux_lemma => kernel_rfl) (by simp) ?_
              refine AllReadyS.cons ⟨some 89, .call { callee := .value (.func 37), args := #[.tmp 86, .tmp 88], argTypes := #[26, 26] }, 35, _, _, none⟩ rfl (fun K hK => ?_) ?_
              focus
                go_simp
                go_at_call 37
                refine (HDPW.out _ HSt.out.1 _ HO.out).mono ?_
                rintro e nv ⟨g0, g1, g2, g3, g4, g5, ea, a, rfl, hx, hj, hres⟩
                obtain ⟨qa_1, qa_1n, qa_2, qa_2n, qa_3, qa_3n, rfl, rfl, rfl, rfl, rfl, rfl⟩ := hj.cells6
                replace HSt := Lib.hid (HSt.out.call1 hx hj)
                have HRa := Lib.hid hres
                clear hx hj hres HO
                try go_simp
                refine hK _ _ trivial (fun _ _ => CBW.out _ HSt.out.1) ?_
                clear hK K
                try simp only [Act.put, List.setIfInBounds_toArray, List.set_cons_zero, List.set_cons_succ]
                have c := N201.out nv _ a qa_1 qa_1n qa_2 qa_2n qa_3 qa_3n ea Bo HSt.out HRa.out
                try unfold RZ at c
                rw [HF.out, HA0.out] at c
                try simp only [Act.put, List.setIfInBounds_toArray, List.set_cons_zero, List.set_cons_succ] at c
                with_reducible exact c
              refine AllReadyS.cons ⟨some 11, .alloc 35, 0, _, _, none⟩ rfl (fun K hK => ?_) AllReadyS.nil
              go_simp
              replace HSt := Lib.hid (HSt.out.alloc9)
              replace HO := Lib.hid (HO.out.step (below1 _ RZ))
              refine hK _ _ trivial (fun _ _ => CBW.out _ HSt.out.1) ?_
              clear hK K
              try simp only [Act.put, List.setIfInBounds_toArray, List.set_cons_zero, List.set_cons_succ]
              have c := N111.out _ _ _ Bo HSt.out HO.out
              try unfold RZ at c
              rw [HF.out, HA0.out] at c
              try simp only [Act.put, List.setIfInBounds_toArray, List.set_cons_zero, List.set_cons_succ] at c
              with_reducible exact c)
            have N100 : Hid (∀ (v : World) (Bo : Nat), St wk v none none none none → JX v none none (.arr [.arr q]) (.agg #[.int .i64 5, .int .i64 0, .string ⟨#[]⟩, .slice (some ⟨Bo, 0, none⟩) 1 1, .slice none 0 0, .slice none 0 0]) → F 7 #[true, true, true, true, false, true, true, true, false, true, false, false, false, false, false] (a0.put (some 88) (.agg #[.int .i64 5, .int .i64 0, .string ⟨#[]⟩, .slice (some ⟨Bo, 0, none⟩) 1 1, .slice none 0 0, .slice none 0 0])) v) := Lib.hid (by
              intro v Bo hSt hO
              have HSt := Lib.hid hSt
              have HO := Lib.hid hO
              clear hSt hO
              rw [HF.out, HA0.out]
              try simp only [Act.put, List.setIfInBounds_toArray, List.set_cons_zero, List.set_cons_succ]
              skip
              refine wpAnyS_ready [4, 11, 12] (by as_aux_lemma => kernel_rfl) (by simp) ?_
              refine AllReadyS.cons ⟨some 89, .call { callee := .value (.func 37), args := #[.tmp 86, .tmp 88], argTypes := #[26, 26] }, 35, _, _, none⟩ rfl (fun K hK => ?_) ?_
              focus
                go_simp
                go_at_call 37
                refine (HDPW.out _ HSt.out.1 _ HO.out).mono ?_
                rintro e nv ⟨g0, g1, g2, g3, g4, g5, ea, a, rfl, hx, hj, hres⟩
                obtain ⟨qa_1, qa_1n, qa_2, qa_2n, qa_3, qa_3n, rfl, rfl, rfl, rfl, rfl, rfl⟩ := hj.cells6
                replace HSt := Lib.hid (HSt.out.call1 hx hj)
                have HRa := Lib.hid hres
                clear hx hj hres HO
                try go_simp
                refine hK _ _ trivial (fun _ _ => CBW.out _ HSt.out.1) ?_
                clear hK K
                try simp only [Act.put, List.setIfInBounds_toArray, List.set_cons_zero, List.set_cons_succ]
                have c := N200.out nv a qa_1 qa_1n qa_2 qa_2n qa_3 qa_3n ea Bo HSt.out HRa.out
                try unfold RZ at c
                rw [HF.out, HA0.out] at c
                try simp only [Act.put, List.setIfInBounds_toArray, List.set_cons_zero, List.set_cons_succ] at c
                with_reducible exact c
              refine AllReadyS.cons ⟨some 11, .alloc 35, 0, _, _, none⟩ rfl (fun K hK => ?_) ?_
              focus
                go_simp
                replace HSt := Lib.hid (HSt.out.alloc9)
                replace HO := Lib.hid (HO.out.step (below1 _ RZ))
                refine hK _ _ trivial (fun _ _ => CBW.out _ HSt.out.1) ?_
                clear hK K
                try simp only [Act.put, List.setIfInBounds_toArray, List.set_cons_zero, List.set_cons_succ]
                have c := N110.out _ _ Bo HSt.out HO.out
                try unfold RZ at c
                rw [HF.out, HA0.out] at c
                try simp only [Act.put, List.setIfInBounds_toArray, List.set_cons_zero, List.set_cons_succ] at c
                with_reducible exact c
              refine AllReadyS.cons ⟨some 12, .alloc 35, 0, _, _, none⟩ rfl (fun K hK => ?_) AllReadyS.nil
              go_simp
              replace HSt := Lib.hid (HSt.out.alloc10)
              replace HO := Lib.hid (HO.out.step (below1 _ RZ))
              refine hK _ _ trivial (fun _ _ => CBW.out _ HSt.out.1) ?_
              clear hK K
              try simp only [Act.put, List.setIfInBounds_toArray, List.set_cons_zero, List.set_cons_succ]
              have c := N101.out _ _ Bo HSt.out HO.out
              try unfold RZ at c
              rw [HF.out, HA0.out] at c
              try simp only [Act.put, List.setIfInBounds_toArray, List.set_cons_zero, List.set_cons_succ] at c
              with_reducible exact c)
            have N011 : Hid (∀ (v : World) (B1 : Nat) (B2 : Nat), St wk v (some B1) (some B2) none none → F 6 #[true, true, true, false, false, true, true, true, false, true, false, true, true, false, false] ((a0.put (some 11) (.pointer (some ⟨B1, 0, none⟩))).put (some 12) (.pointer (some ⟨B2, 0, none⟩))) v) := Lib.hid (by
              intro v B1 B2 hSt
              have HSt := Lib.hid hSt
              clear hSt
              rw [HF.out, HA0.out]
              try simp only [Act.put, List.setIfInBounds_toArray, List.set_cons_zero, List.set_cons_succ]
              skip
              refine wpAnyS_ready [3] (by as_aux_lemma => kernel_rfl) (by simp) ?_
              refine AllReadyS.cons ⟨some 88, .call { callee := .value (.func 38), args := #[.tmp 87], argTypes := #[23] }, 26, _, _, none⟩ rfl (fun K hK => ?_) AllReadyS.nil
              go_simp
              go_at_call 38
              refine (HONE.out _).mono ?_
              rintro e nv ⟨Bo, rfl, hx, hB, hcell⟩
              replace HSt := Lib.hid (HSt.out.step hx)
              have HO := Lib.hid (HOR.out nv Bo HSt.out.1 hcell)
              clear hx hB hcell
              try go_simp
              refine hK _ _ trivial (fun _ _ => CBW.out _ HSt.out.1) ?_
              clear hK K
              try simp only [Act.put, List.setIfInBounds_toArray, List.set_cons_zero, List.set_cons_succ]
              have c := N111.out nv _ _ Bo HSt.out HO.out
              try unfold RZ at c
              rw [HF.out, HA0.out] at c
              try simp only [Act.put, List.setIfInBounds_toArray, List.set_cons_zero, List.set_cons_succ] at c
              with_reducible exact c)
            have N010 : Hid (∀ (v : World) (B1 : Nat), St wk v (some B1) none none none → F 7 #[true, true, true, false, false, true, true, true, false, true, false, true, false, false, false] (a0.put (some 11) (.pointer (some ⟨B1, 0, none⟩))) v) := Lib.hid (by
              intro v B1 hSt
              have HSt := Lib.hid hSt
              clear hSt
              rw [HF.out, HA0.out]
              try simp only [Act.put, List.setIfInBounds_toArray, List.set_cons_zero, List.set_cons_succ]
              skip
              refine wpAnyS_ready [3, 12] (by as_aux_lemma => kernel_rfl) (by simp) ?_
              refine AllReadyS.cons ⟨some 88, .call { callee := .value (.func 38), args := #[.tmp 87], argTypes := #[23] }, 26, _, _, none⟩ rfl (fun K hK => ?_) ?_
              focus
                go_simp
                go_at_call 38
                refine (HONE.out _).mono ?_
                rintro e nv ⟨Bo, rfl, hx, hB, hcell⟩
                replace HSt := Lib.hid (HSt.out.step hx)
                have HO := Lib.hid (HOR.out nv Bo HSt.out.1 hcell)
                clear hx hB hcell
                try go_simp
                refine hK _ _ trivial (fun _ _ => CBW.out _ HSt.out.1) ?_
                clear hK K
                try simp only [Act.put, List.setIfInBounds_toArray, List.set_cons_zero, List.set_cons_succ]
                have c := N110.out nv _ Bo HSt.out HO.out
                try unfold RZ at c
                rw [HF.out, HA0.out] at c
                try simp only [Act.put, List.setIfInBounds_toArray, List.set_cons_zero, List.set_cons_succ] at c
                with_reducible exact c
              refine AllReadyS.cons ⟨some 12, .alloc 35, 0, _, _, none⟩ rfl (fun K hK => ?_) AllReadyS.nil
              go_simp
              replace HSt := Lib.hid (HSt.out.alloc10)
              refine hK _ _ trivial (fun _ _ => CBW.out _ HSt.out.1) ?_
              clear hK K
              try simp only [Act.put, List.setIfInBounds_toArray, List.set_cons_zero, List.set_cons_succ]
              have c := N011.out _ _ _ HSt.out
              try unfold RZ at c
              rw [HF.out, HA0.out] at c
              try simp only [Act.put, List.setIfInBounds_toArray, List.set_cons_zero, List.set_cons_succ] at c
              with_reducible exact c)
            have N001 : Hid (∀ (v : World) (B2 : Nat), St wk v none (some B2) none none → F 7 #[true, true, true, false, false, true, true, true, false, true, false, false, true, false, false] (a0.put (some 12) (.pointer (some ⟨B2, 0, none⟩))) v) := Lib.hid (by
              intro v B2 hSt
              have HSt := Lib.hid hSt
              clear hSt
              rw [HF.out, HA0.out]
              try simp only [Act.put, List.setIfInBounds_toArray, List.set_cons_zero, List.set_cons_succ]
              skip
              refine wpAnyS_ready [3, 11] (by as_aux_lemma => kernel_rfl) (by simp) ?_
              refine AllReadyS.cons ⟨some 88, .call { callee := .value (.func 38), args := #[.tmp 87], argTypes := #[23] }, 26, _, _, none⟩ rfl (fun K hK => ?_) ?_
              focus
                go_simp
                go_at_call 38
                refine (HONE.out _).mono ?_
                rintro e nv ⟨Bo, rfl, hx, hB, hcell⟩
                replace HSt := Lib.hid (HSt.out.step hx)
                have HO := Lib.hid (HOR.out nv Bo HSt.out.1 hcell)
                clear hx hB hcell
                try go_simp
                refine hK _ _ trivial (fun _ _ => CBW.out _ HSt.out.1) ?_
                clear hK K
                try simp only [Act.put, List.setIfInBounds_toArray, List.set_cons_zero, List.set_cons_succ]
                have c := N101.out nv _ Bo HSt.out HO.out
                try unfold RZ at c
                rw [HF.out, HA0.out] at c
                try simp only [Act.put, List.setIfInBounds_toArray, List.set_cons_zero, List.set_cons_succ] at c
                with_reducible exact c
              refine AllReadyS.cons ⟨some 11, .alloc 35, 0, _, _, none⟩ rfl (fun K hK => ?_) AllReadyS.nil
              go_simp
              replace HSt := Lib.hid (HSt.out.alloc9)
              refine hK _ _ trivial (fun _ _ => CBW.out _ HSt.out.1) ?_
              clear hK K
              try simp only [Act.put, List.setIfInBounds_toArray, List.set_cons_zero, List.set_cons_succ]
              have c := N011.out _ _ _ HSt.out
              try unfold RZ at c
              rw [HF.out, HA0.out] at c
              try simp only [Act.put, List.setIfInBounds_toArray, List.set_cons_zero, List.set_cons_succ] at c
              with_reducible exact c)
            have N000 : Hid (∀ (v : World) , St wk v none none none none → F 8 #[true, true, true, false, false, true, true, true, false, true, false, false, false, false, false] a0 v) := Lib.hid (by
              intro v  hSt
              have HSt := Lib.hid hSt
              clear hSt
              rw [HF.out, HA0.out]
              try simp only [Act.put, List.setIfInBounds_toArray, List.set_cons_zero, List.set_cons_succ]
              skip
              refine wpAnyS_ready [3, 11, 12] (by as_aux_lemma => kernel_rfl) (by simp) ?_
              refine AllReadyS.cons ⟨some 88, .call { callee := .value (.func 38), args := #[.tmp 87], argTypes := #[23] }, 26, _, _, none⟩ rfl (fun K hK => ?_) ?_
              focus
                go_simp
                go_at_call 38
                refine (HONE.out _).mono ?_
                rintro e nv ⟨Bo, rfl, hx, hB, hcell⟩
                replace HSt := Lib.hid (HSt.out.step hx)
                have HO := Lib.hid (HOR.out nv Bo HSt.out.1 hcell)
                clear hx hB hcell
                try go_simp
                refine hK _ _ trivial (fun _ _ => CBW.out _ HSt.out.1) ?_
                clear hK K
                try simp only [Act.put, List.setIfInBounds_toArray, List.set_cons_zero, List.set_cons_succ]
                have c := N100.out nv Bo HSt.out HO.out
                try unfold RZ at c
                rw [HF.out, HA0.out] at c
                try simp only [Act.put, List.setIfInBounds_toArray, List.set_cons_zero, List.set_cons_succ] at c
                with_reducible exact c
              refine AllReadyS.cons ⟨some 11, .alloc 35, 0, _, _, none⟩ rfl (fun K hK => ?_) ?_
              focus
                go_simp
                replace HSt := Lib.hid (HSt.out.alloc9)
                refine hK _ _ trivial (fun _ _ => CBW.out _ HSt.out.1) ?_
                clear hK K
                try simp only [Act.put, List.setIfInBounds_toArray, List.set_cons_zero, List.set_cons_succ]
                have c := N010.out _ _ HSt.out
                try unfold RZ at c
                rw [HF.out, HA0.out] at c
                try simp only [Act.put, List.setIfInBounds_toArray, List.set_cons_zero, List.set_cons_succ] at c
                with_reducible exact c
              refine AllReadyS.cons ⟨some 12, .alloc 35, 0, _, _, none⟩ rfl (fun K hK => ?_) AllReadyS.nil
              go_simp
              replace HSt := Lib.hid (HSt.out.alloc10)
              refine hK _ _ trivial (fun _ _ => CBW.out _ HSt.out.1) ?_
              clear hK K
              try simp only [Act.put, List.setIfInBounds_toArray, List.set_cons_zero, List.set_cons_succ]
              have c := N001.out _ _ HSt.out
              try unfold RZ at c
              rw [HF.out, HA0.out] at c
              try simp only [Act.put, List.setIfInBounds_toArray, List.set_cons_zero, List.set_cons_succ] at c
              with_reducible exact c)
            exact N000.out _ HSt.out
          case rest =>
            obtain ⟨B11, B12, a, bb, qa_1, qa_1n, qa_2, qa_2n, qa_3, qa_3n, qb_1, qb_1n, qb_2, qb_2n, qb_3, qb_3n, ea, eb, rfl, rfl, hbw, h11, h12, hja, hjb, hra, hrb⟩ := hcut
            have HBW := Lib.hid (HBK.out.trans (hbw.mono HBK.out.size))
            obtain ⟨r0, r1, r2, r3, r4, r5, r6⟩ := h11.c
            obtain ⟨s0, s1, s2, s3, s4, s5, s6⟩ := h12.c
            cases hda : delJ r q with
            | none =>
              rw [hda] at hra
              obtain ⟨rfl, rfl⟩ : a = .null ∧ ea = 1 := hra
              clear hja hjb hrb h11 h12 hbw hda
              go_wp2_with fail
              exact bodyPost_ret (v := .bool true) (by simp [results, Tryz.results8, go_sem]) rfl ⟨rfl, (KEY.out _ (KW.out _ HBW.out).1).1⟩
            | some a0 =>
              rw [hda] at hra
              have hsd := HSD.out a0 hda
              have hao := okn_ok (n := 2002) (by unfold lim; omega) a0 (HSA.out a0 hda)
              rw [hsd] at hrb
              obtain ⟨ha0, rfl⟩ : a = a0 ∧ ea = 0 := hra
              obtain ⟨hb0, rfl⟩ : bb = a0 ∧ eb = 0 := hrb
              subst ha0
              subst hb0
              have hga := given_ok bb bb 0 wc (allB wc) _ _ _ _ _ _ (.agg #[.int .i64 bb.kind, .int .i64 bb.half, .string bb.text, .slice qa_1 bb.list.length qa_1n, .slice qa_2 bb.keys.length qa_2n, .slice qa_3 bb.vals.length qa_3n]) hao hao (fun _ h => h) hjb hja (by decide)
              rw [cmp_ss] at hga
              have HGA := Lib.hid hga
              clear hga hja hjb h11 h12 hbw hda hsd hao
              go_wp2_with (go_at_call 17; refine HGA.out.mono ?_; rintro e w20 ⟨rfl, hx⟩; have HX20 := Lib.hid (HBW.out.trans (hx.mono HBW.out.size)); clear hx)
              exact bodyPost_ret (v := .bool true) (by simp [results, Tryz.results8, go_sem]) rfl ⟨rfl, (KEY.out _ (KW.out _ HX20.out).1).1⟩
end Go.Gj
