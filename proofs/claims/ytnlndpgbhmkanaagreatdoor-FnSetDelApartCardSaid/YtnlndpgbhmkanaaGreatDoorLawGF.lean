/-
  laws.FnGetFold.
-/
import Derived.Test.YtnlndpgbhmkanaaGreatDoorLawA
import Derived.Test.YtnlndpgbhmkanaaGreatDoorWSpecE
import Derived.Test.YtnlndpgbhmkanaaGreatDoorWDoorS
import Derived.Test.YtnlndpgbhmkanaaGreatDoorWDivLaw2
import Derived.Test.YtnlndpgbhmkanaaGreatDoorRegM
namespace Go.Gj
set_option linter.unusedSimpArgs false
set_option linter.unusedVariables false
set_option linter.unnecessarySimpa false
open Go Go.RowKit Go.Proofs

theorem SlOf.vkeep {w w' : World} {S : Nat → Prop} {l : List V} {v : Value} (h : SlOf S l.length (fun b o => VCells w S b l o) v) (hb : Same S w w') : SlOf S l.length (fun b o => VCells w' S b l o) v :=
  SlOf.keep h (fun _ h => h) fun b o hb' hq => VCells.keep hb (fun _ h => h) b hb' l o hq

/-- A slice of two records, in a new block. -/
theorem two_sl {w : World} {S : Nat → Prop} (hS : ∀ b, S b → b < w.heap.size) {u v : V} {k h k' h' : Int} {t t' : ByteArray} {s1 s2 s3 r1 r2 r3 : Value} (hu : VRep w S u (.agg #[.int .i64 k, .int .i64 h, .string t, s1, s2, s3])) (hv : VRep w S v (.agg #[.int .i64 k', .int .i64 h', .string t', r1, r2, r3])) :
    SlOf (allB (w.alloc (.cells #[.int .i64 k, .int .i64 h, .string t, s1, s2, s3, .int .i64 k', .int .i64 h', .string t', r1, r2, r3] 26))) [u, v].length (fun b o => VCells (w.alloc (.cells #[.int .i64 k, .int .i64 h, .string t, s1, s2, s3, .int .i64 k', .int .i64 h', .string t', r1, r2, r3] 26)) (allB (w.alloc (.cells #[.int .i64 k, .int .i64 h, .string t, s1, s2, s3, .int .i64 k', .int .i64 h', .string t', r1, r2, r3] 26))) b [u, v] o) (.slice (some ⟨w.heap.size, 0, none⟩) [u, v].length 2) := by
  have hb := below1 w (.cells #[.int .i64 k, .int .i64 h, .string t, s1, s2, s3, .int .i64 k', .int .i64 h', .string t', r1, r2, r3] 26)
  have hS' : ∀ b, S b → allB (w.alloc (.cells #[.int .i64 k, .int .i64 h, .string t, s1, s2, s3, .int .i64 k', .int .i64 h', .string t', r1, r2, r3] 26)) b := lt_below hb hS
  have hc : ∀ i v', (#[Value.int .i64 k, .int .i64 h, .string t, s1, s2, s3, .int .i64 k', .int .i64 h', .string t', r1, r2, r3] : Array Value)[i]? = some v' → (w.alloc (.cells #[.int .i64 k, .int .i64 h, .string t, s1, s2, s3, .int .i64 k', .int .i64 h', .string t', r1, r2, r3] 26)).cell? ⟨w.heap.size, i, none⟩ = some v' := fun i v' hv => by
    unfold World.cell?
    rw [heap_alloc_new w _]
    exact hv
  refine ⟨some ⟨w.heap.size, 0, none⟩, 2, rfl, by unfold mostLen; simp, .inr ⟨w.heap.size, 0, rfl, by unfold allB; rw [size_alloc]; omega, ?_⟩⟩
  refine ⟨⟨_, _, _, _, _, _, hc 0 _ rfl, hc 1 _ rfl, hc 2 _ rfl, hc 3 _ rfl, hc 4 _ rfl, hc 5 _ rfl, VRep.keep (.of_below hb hS) hS' _ _ hu⟩, ⟨_, _, _, _, _, _, hc 6 _ rfl, hc 7 _ rfl, hc 8 _ rfl, hc 9 _ rfl, hc 10 _ rfl, hc 11 _ rfl, VRep.keep (.of_below hb hS) hS' _ _ hv⟩, trivial⟩

theorem vrep_arr {w : World} {S : Nat → Prop} {l : List V} {sl : Value} (h : SlOf S l.length (fun b o => VCells w S b l o) sl) : VRep w S (.mk 5 0 ⟨#[]⟩ l [] []) (.agg #[.int .i64 5, .int .i64 0, .string ⟨#[]⟩, sl, .slice none 0 0, .slice none 0 0]) :=
  ⟨_, _, _, rfl, Nat.zero_le mostLen, by decide, by decide, h, slNil, slNil⟩

/-- What the two, an object and a path, are, where they fit. -/
theorem fit_two {u : V} {l : List V} (h : ∀ x ∈ [u, V.mk 5 0 ⟨#[]⟩ l [] []], ∃ y : J, y.fit ∧ x = y.toV) : ∃ (x : J) (p : List J), x.fit ∧ u = x.toV ∧ (J.arr p).fit ∧ l = J.toVs p := by
  obtain ⟨x, hx, hu⟩ := h u (by simp)
  obtain ⟨y, hy, hv⟩ := h (V.mk 5 0 ⟨#[]⟩ l [] []) (by simp)
  rcases y with _ | (_ | _) | n | s | p | ⟨ks, vs⟩ <;> simp only [J.toV] at hv
  all_goals first | (injection hv with e1 e2 e3 e4 e5 e6; exact absurd e1 (by decide)) | skip
  injection hv with e1 e2 e3 e4 e5 e6
  exact ⟨x, p, hx, hu, hy, e4⟩

theorem straight_okV (l : List V) (p : List J) (hl : l = J.toVs p) (hok : ∀ k ∈ p, k.ok) (w : World) (S : Nat → Prop) (a : Option Addr) (c : Nat) (hS : ∀ b, S b → b < w.heap.size) (h : SlOf S l.length (fun b o => VCells w S b l o) (.slice a l.length c)) :
    Calls Tryz.prog 13 #[.slice a l.length c] w fun e w' => ∃ r, e = .returned (.bool r) ∧ Below w.heap.size w w' ∧ (r = true → p.length ≤ 20 ∧ ∀ k ∈ p, keyOk k) := by
  subst hl
  rw [toVs_length] at h ⊢
  exact straight_ok p hok w S a c hS h

theorem jsl_of {w : World} {S : Nat → Prop} {l : List V} {p : List J} {v : Value} (hl : l = J.toVs p) (h : SlOf S l.length (fun b o => VCells w S b l o) v) : JSl w S p v := by
  subst hl
  rw [toVs_length] at h
  exact h
theorem JSl.at' {w : World} {S : Nat → Prop} {l : List J} {a : Option Addr} {n c : Nat} (h : JSl w S l (.slice a n c)) (i : Nat) (hi : i < l.length) : ∃ b o, a = some ⟨b, o, none⟩ ∧ S b ∧
    ∃ c0 c1 c2 c3 c4 c5, w.cell? ⟨b, o + i * 6, none⟩ = some c0 ∧ w.cell? ⟨b, o + i * 6 + 1, none⟩ = some c1 ∧ w.cell? ⟨b, o + i * 6 + 2, none⟩ = some c2 ∧
      w.cell? ⟨b, o + i * 6 + 3, none⟩ = some c3 ∧ w.cell? ⟨b, o + i * 6 + 4, none⟩ = some c4 ∧ w.cell? ⟨b, o + i * 6 + 5, none⟩ = some c5 ∧ JRep w S l[i] (.agg #[c0, c1, c2, c3, c4, c5]) := by
  obtain ⟨a', c', hv, _, hat⟩ := h.at
  obtain ⟨rfl, _⟩ : a = a' ∧ _ := by simpa using hv
  exact hat i hi
theorem jrep_of {w : World} {S : Nat → Prop} {u : V} {x : J} {v : Value} (hu : u = x.toV) (h : VRep w S u v) : JRep w S x v := by subst hu; exact h
theorem field35_1 (c0 c1 c2 c3 c4 c5 c6 : Value) (w : World) : (Instr.field 35 (.agg #[c0, c1, c2, c3, c4, c5, c6]) 1).run Tryz.prog w = .ok c6 w := by kernel_rfl

set_option maxHeartbeats 4000000 in
set_option maxRecDepth 100000 in
/-- laws.FnGetFold: it answers true. -/
theorem FnGetFold_ok (u : V) (l : List V) (w : World) (S : Nat → Prop) (va vp : Value) (hT : Tabs w) (hS : ∀ b, S b → b < w.heap.size) (ha : VRep w S u va) (hp : SlOf S l.length (fun b o => VCells w S b l o) vp) :
    Calls Tryz.prog 3 #[va, vp] w fun e w' => e = .returned (.bool true) ∧ Below w.heap.size w w' := by
  obtain ⟨k, h0, t, a1, n1, m1, a2, n2, m2, a3, n3, m3, rfl⟩ := ha.shape
  have hp0 := hp
  obtain ⟨pa, pc, rfl, hpn, _⟩ := hp0
  have hB := below1 w (.cells #[.int .i64 k, .int .i64 h0, .string t, .slice a1 n1 m1, .slice a2 n2 m2, .slice a3 n3 m3] 26)
  have key : ∀ w1, Below (w.alloc (.cells #[.int .i64 k, .int .i64 h0, .string t, .slice a1 n1 m1, .slice a2 n2 m2, .slice a3 n3 m3] 26)).heap.size (w.alloc (.cells #[.int .i64 k, .int .i64 h0, .string t, .slice a1 n1 m1, .slice a2 n2 m2, .slice a3 n3 m3] 26)) w1 →
      Below w.heap.size w w1 ∧ Tabs w1 ∧ (∀ b, S b → b < w1.heap.size) ∧ VRep w1 S u (.agg #[.int .i64 k, .int .i64 h0, .string t, .slice a1 n1 m1, .slice a2 n2 m2, .slice a3 n3 m3]) ∧ SlOf S l.length (fun b o => VCells w1 S b l o) (.slice pa l.length pc) ∧ Box w1 w.heap.size k h0 t (.slice a1 n1 m1) (.slice a2 n2 m2) (.slice a3 n3 m3) := fun w1 h1 => by
    have hbl : Below w.heap.size w w1 := hB.trans (h1.mono hB.size)
    exact ⟨hbl, hT.below hbl, lt_below hbl hS, VRep.keep (.of_below hbl hS) (fun _ h => h) _ _ ha, SlOf.vkeep hp (.of_below hbl hS), (h1.block _ (by rw [size_alloc]; omega)).trans (Box.new w k h0 t (.slice a1 n1 m1) (.slice a2 n2 m2) (.slice a3 n3 m3))⟩
  have HP0 := Lib.hid (Below.refl (w.alloc (.cells #[.int .i64 k, .int .i64 h0, .string t, .slice a1 n1 m1, .slice a2 n2 m2, .slice a3 n3 m3] 26)).heap.size (w.alloc (.cells #[.int .i64 k, .int .i64 h0, .string t, .slice a1 n1 m1, .slice a2 n2 m2, .slice a3 n3 m3] 26)))
  have KEY := Lib.hid key
  have HZ1 := Lib.hid (fun w1 h1 => zzFits1_ok _ w1 S _ (key w1 h1).2.2.1 (key w1 h1).2.2.2.1)
  have hsz1 := size_alloc w (.cells #[.int .i64 k, .int .i64 h0, .string t, .slice a1 n1 m1, .slice a2 n2 m2, .slice a3 n3 m3] 26)
  have HSZ1 := Lib.hid hsz1
  unfold mostLen at hpn
  have HS := Lib.hid (fun b (hb : S b) => hS b hb)
  clear key hB ha hp hT hS hsz1
  by_cases hbig : (l.length : Int) > 2147483647
  · have hb' : decide ((2147483647 : Int) < (l.length : Int)) = true := by simp; omega
    clear hbig
    go_enter Tryz.func3, Tryz.ntmps3
    go_upto_region 1 with fail
    obtain ⟨x0, x1, x2, x3, x4, x5⟩ := (KEY.out _ HP0.out).2.2.2.2.2.c
    generalize (w.alloc (.cells #[.int .i64 k, .int .i64 h0, .string t, .slice a1 n1 m1, .slice a2 n2 m2, .slice a3 n3 m3] 26)) = W1 at *
    go_wp2_with (go_at_call 10; with_reducible refine (HZ1.out _ HP0.out).mono ?_; rintro e w1 ⟨q1, rfl, hx⟩; have HP1 := Lib.hid (HP0.out.trans (hx.mono HP0.out.size)); clear hx; cases q1)
    all_goals exact bodyPost_ret (v := .bool true) (by simp [results, Tryz.results3, go_sem]) rfl ⟨rfl, (KEY.out _ HP1.out).1⟩
  · have hb' : decide ((2147483647 : Int) < (l.length : Int)) = false := by simp; omega
    clear hbig
    go_enter Tryz.func3, Tryz.ntmps3
    go_upto_region 1 with fail
    obtain ⟨x0, x1, x2, x3, x4, x5⟩ := (KEY.out _ HP0.out).2.2.2.2.2.c
    generalize (w.alloc (.cells #[.int .i64 k, .int .i64 h0, .string t, .slice a1 n1 m1, .slice a2 n2 m2, .slice a3 n3 m3] 26)) = W1 at *
    go_upto_region 3 with (go_at_call 10; with_reducible refine (HZ1.out _ HP0.out).mono ?_; rintro e w1 ⟨q1, rfl, hx⟩; have HP1 := Lib.hid (HP0.out.trans (hx.mono HP0.out.size)); clear hx; cases q1)
    · exact bodyPost_ret (v := .bool true) (by simp [results, Tryz.results3, go_sem]) rfl ⟨rfl, (KEY.out _ HP1.out).1⟩
    have CELLS : Hid (∀ w1, Below W1.heap.size W1 w1 → w1.cell? ⟨w.heap.size, 0, none⟩ = some (.int .i64 k) ∧ w1.cell? ⟨w.heap.size, 1, none⟩ = some (.int .i64 h0) ∧ w1.cell? ⟨w.heap.size, 2, none⟩ = some (.string t) ∧ w1.cell? ⟨w.heap.size, 3, none⟩ = some (.slice a1 n1 m1) ∧ w1.cell? ⟨w.heap.size, 4, none⟩ = some (.slice a2 n2 m2) ∧ w1.cell? ⟨w.heap.size, 5, none⟩ = some (.slice a3 n3 m3)) := Lib.hid fun w1 h1 => (KEY.out _ h1).2.2.2.2.2.c
    have HARR := Lib.hid (fun w1 => array_ok (.slice pa l.length pc) pa l.length pc w1 rfl)
    have HFIT := Lib.hid (fun w1 (h1 : Below W1.heap.size W1 w1) => fits_ok [u, V.mk 5 0 ⟨#[]⟩ l [] []] (w1.alloc (.cells #[.int .i64 k, .int .i64 h0, .string t, .slice a1 n1 m1, .slice a2 n2 m2, .slice a3 n3 m3, .int .i64 5, .int .i64 0, .string ⟨#[]⟩, .slice pa l.length pc, .slice none 0 0, .slice none 0 0] 26)) (allB _) (some ⟨w1.heap.size, 0, none⟩) 2 ((KEY.out _ h1).2.1.below (below1 w1 _)) (fun _ h => h) (two_sl (KEY.out _ h1).2.2.1 (KEY.out _ h1).2.2.2.1 (vrep_arr (KEY.out _ h1).2.2.2.2.1)))
    have HSTR := Lib.hid (fun w1 (h1 : Below W1.heap.size W1 w1) (p : List J) (hl : l = J.toVs p) (hok : ∀ k ∈ p, k.ok) => straight_okV l p hl hok w1 S pa pc (KEY.out _ h1).2.2.1 (KEY.out _ h1).2.2.2.2.1)
    clear x0 x1 x2 x3 x4 x5
    have HP2 := Lib.hid HP1.out.drew
    obtain ⟨x0, x1, x2, x3, x4, x5⟩ := CELLS.out _ HP2.out
    go_cut [29] (fun b wx => ∃ q : Bool, b = .bool q ∧ Below W1.heap.size W1 wx ∧ (q = false → ∃ (x : J) (p : List J), x.fit ∧ u = x.toV ∧ (J.arr p).fit ∧ l = J.toVs p ∧ p.length ≤ 20 ∧ ∀ k ∈ p, keyOk k))
    case first =>
      refine wp_region_any (by kernel_rfl) ?_
      change wpAny _ _ _ _ _ _ _ (World.drew _)
      refine wpAny_ready (rs := [0, 1]) (by kernel_rfl) (by simp) ?_
      refine AllReady.cons rfl (fun K hK => ?_) (AllReady.cons rfl (fun K hK => ?_) AllReady.nil)
      · go_simp
        refine hK _ _ ?_
        clear hK K
        refine wpAny_rest 1 rfl (by kernel_rfl) ?_
        simp only [List.drop_succ_cons, List.drop_zero]
        go_wp2_with (first | (go_at_call 12; refine (HARR.out _).mono ?_; rintro e w3 ⟨rfl, hx⟩; have HP3 := Lib.hid (HP2.out.trans (hx.mono HP2.out.size)); have HP4 := Lib.hid (HP3.out.alloc HP3.out.size (.cells #[.int .i64 k, .int .i64 h0, .string t, .slice a1 n1 m1, .slice a2 n2 m2, .slice a3 n3 m3, .int .i64 5, .int .i64 0, .string ⟨#[]⟩, .slice pa l.length pc, .slice none 0 0, .slice none 0 0] 26)); obtain ⟨x0, x1, x2, x3, x4, x5⟩ := CELLS.out _ HP3.out; clear hx) | (go_at_call 11; refine (HFIT.out _ HP3.out).mono ?_; rintro e w5 ⟨q5, rfl, hx, hi5⟩; have HP5 := Lib.hid (HP4.out.trans (hx.mono HP4.out.size)); have HI5 := Lib.hid hi5; clear hx hi5; cases q5) | (go_at_call 13; obtain ⟨x, p, hx, hu, hpf, hl⟩ := fit_two (HI5.out (by trivial)); refine (HSTR.out _ HP5.out p hl (fun k hk => fit_ok ((oksn_iff _ _).1 hpf.2 k hk))).mono ?_; rintro e w6 ⟨q6, rfl, hx6, hi6⟩; have HP6 := Lib.hid (HP5.out.trans (hx6.mono HP5.out.size)); have HI6 := Lib.hid hi6; have HX := Lib.hid hx; have HU := Lib.hid hu; have HPF := Lib.hid hpf; have HL := Lib.hid hl; clear hx hu hpf hl hx6 hi6; cases q6))
        all_goals go_meet
        · exact ⟨true, rfl, HP5.out, fun h => by cases h⟩
        · exact ⟨true, rfl, HP6.out, fun h => by cases h⟩
        · exact ⟨false, rfl, HP6.out, fun _ => ⟨x, p, HX.out, HU.out, HPF.out, HL.out, (HI6.out (by trivial)).1, (HI6.out (by trivial)).2⟩⟩
      · go_simp
        refine hK _ _ ?_
        clear hK K
        refine wpAny_ready (rs := [0, 2]) (by kernel_rfl) (by simp) ?_
        refine AllReady.cons rfl (fun K hK => ?_) (AllReady.cons rfl (fun K hK => ?_) AllReady.nil)
        · go_simp
          refine hK _ _ ?_
          clear hK K
          refine wpAny_rest 2 rfl (by kernel_rfl) ?_
          simp only [List.drop_succ_cons, List.drop_zero]
          go_wp2_with (first | (go_at_call 12; refine (HARR.out _).mono ?_; rintro e w3 ⟨rfl, hx⟩; have HP3 := Lib.hid (HP2.out.trans (hx.mono HP2.out.size)); have HP4 := Lib.hid (HP3.out.alloc HP3.out.size (.cells #[.int .i64 k, .int .i64 h0, .string t, .slice a1 n1 m1, .slice a2 n2 m2, .slice a3 n3 m3, .int .i64 5, .int .i64 0, .string ⟨#[]⟩, .slice pa l.length pc, .slice none 0 0, .slice none 0 0] 26)); obtain ⟨x0, x1, x2, x3, x4, x5⟩ := CELLS.out _ HP3.out; clear hx) | (go_at_call 11; refine (HFIT.out _ HP3.out).mono ?_; rintro e w5 ⟨q5, rfl, hx, hi5⟩; have HP5 := Lib.hid (HP4.out.trans (hx.mono HP4.out.size)); have HI5 := Lib.hid hi5; clear hx hi5; cases q5) | (go_at_call 13; obtain ⟨x, p, hx, hu, hpf, hl⟩ := fit_two (HI5.out (by trivial)); refine (HSTR.out _ HP5.out p hl (fun k hk => fit_ok ((oksn_iff _ _).1 hpf.2 k hk))).mono ?_; rintro e w6 ⟨q6, rfl, hx6, hi6⟩; have HP6 := Lib.hid (HP5.out.trans (hx6.mono HP5.out.size)); have HI6 := Lib.hid hi6; have HX := Lib.hid hx; have HU := Lib.hid hu; have HPF := Lib.hid hpf; have HL := Lib.hid hl; clear hx hu hpf hl hx6 hi6; cases q6))
          all_goals go_meet
          · exact ⟨true, rfl, HP5.out, fun h => by cases h⟩
          · exact ⟨true, rfl, HP6.out, fun h => by cases h⟩
          · exact ⟨false, rfl, HP6.out, fun _ => ⟨x, p, HX.out, HU.out, HPF.out, HL.out, (HI6.out (by trivial)).1, (HI6.out (by trivial)).2⟩⟩
        · clear x0 x1 x2 x3 x4 x5
          go_simp
          go_wp2_with (go_at_call 12; refine (HARR.out _).mono ?_; rintro e w3 ⟨rfl, hx⟩; have HP3 := Lib.hid (HP2.out.trans (hx.mono HP2.out.size)); have HP4 := Lib.hid (HP3.out.alloc HP3.out.size (.cells #[.int .i64 k, .int .i64 h0, .string t, .slice a1 n1 m1, .slice a2 n2 m2, .slice a3 n3 m3, .int .i64 5, .int .i64 0, .string ⟨#[]⟩, .slice pa l.length pc, .slice none 0 0, .slice none 0 0] 26)); obtain ⟨x0, x1, x2, x3, x4, x5⟩ := CELLS.out _ HP3.out; clear hx)
          refine wpAny_ready (rs := [0]) (by kernel_rfl) (by simp) ?_
          refine AllReady.cons rfl (fun K hK => ?_) AllReady.nil
          go_simp
          refine hK _ _ ?_
          clear hK K
          refine wpAny_rest 3 rfl (by kernel_rfl) ?_
          simp only [List.drop_succ_cons, List.drop_zero]
          go_wp2_with (first | (go_at_call 12; refine (HARR.out _).mono ?_; rintro e w3 ⟨rfl, hx⟩; have HP3 := Lib.hid (HP2.out.trans (hx.mono HP2.out.size)); have HP4 := Lib.hid (HP3.out.alloc HP3.out.size (.cells #[.int .i64 k, .int .i64 h0, .string t, .slice a1 n1 m1, .slice a2 n2 m2, .slice a3 n3 m3, .int .i64 5, .int .i64 0, .string ⟨#[]⟩, .slice pa l.length pc, .slice none 0 0, .slice none 0 0] 26)); obtain ⟨x0, x1, x2, x3, x4, x5⟩ := CELLS.out _ HP3.out; clear hx) | (go_at_call 11; refine (HFIT.out _ HP3.out).mono ?_; rintro e w5 ⟨q5, rfl, hx, hi5⟩; have HP5 := Lib.hid (HP4.out.trans (hx.mono HP4.out.size)); have HI5 := Lib.hid hi5; clear hx hi5; cases q5) | (go_at_call 13; obtain ⟨x, p, hx, hu, hpf, hl⟩ := fit_two (HI5.out (by trivial)); refine (HSTR.out _ HP5.out p hl (fun k hk => fit_ok ((oksn_iff _ _).1 hpf.2 k hk))).mono ?_; rintro e w6 ⟨q6, rfl, hx6, hi6⟩; have HP6 := Lib.hid (HP5.out.trans (hx6.mono HP5.out.size)); have HI6 := Lib.hid hi6; have HX := Lib.hid hx; have HU := Lib.hid hu; have HPF := Lib.hid hpf; have HL := Lib.hid hl; clear hx hu hpf hl hx6 hi6; cases q6))
          all_goals go_meet
          · exact ⟨true, rfl, HP5.out, fun h => by cases h⟩
          · exact ⟨true, rfl, HP6.out, fun h => by cases h⟩
          · exact ⟨false, rfl, HP6.out, fun _ => ⟨x, p, HX.out, HU.out, HPF.out, HL.out, (HI6.out (by trivial)).1, (HI6.out (by trivial)).2⟩⟩
    case rest =>
      obtain ⟨q, rfl, hbw, hq⟩ := hcut
      have HPW := Lib.hid hbw
      have HQ := Lib.hid hq
      clear hbw hq HP2 x0 x1 x2 x3 x4 x5
      cases q
      · obtain ⟨x, p, hxf, hu, hpf, hl, hp20, hkk⟩ := HQ.out (by trivial)
        have hlen : l.length = p.length := by rw [hl, toVs_length]
        have hJ := jrep_of hu (KEY.out _ HPW.out).2.2.2.1
        obtain ⟨b1, d1, b2, d2, b3, d3, e0, e1, e2, e3, e4, e5⟩ := hJ.cells6
        simp only [Value.int.injEq, Value.string.injEq, Value.slice.injEq, true_and] at e0 e1 e2 e3 e4 e5
        obtain rfl := e0; obtain rfl := e1; obtain rfl := e2
        obtain ⟨rfl, rfl, rfl⟩ := e3; obtain ⟨rfl, rfl, rfl⟩ := e4; obtain ⟨rfl, rfl, rfl⟩ := e5
        have HU := Lib.hid hu
        have HL := Lib.hid hl
        have HLEN := Lib.hid hlen
        have HXF := Lib.hid hxf
        have HPF := Lib.hid hpf
        have HKK := Lib.hid hkk
        have HP20 := Lib.hid hp20
        have HGP := Lib.hid (SpecGetPath_ok x p (fit_ok hxf) hkk (by omega) wc S _ _ (KEY.out _ HPW.out).2.2.1 hJ (jsl_of hl (KEY.out _ HPW.out).2.2.2.2.1))
        clear hJ hu hl hlen hxf hpf hkk hp20 HQ
        obtain ⟨x0, x1, x2, x3, x4, x5⟩ := (KEY.out _ HPW.out).2.2.2.2.2.c
        go_upto_region 6 with (go_at_call 14; refine HGP.out.mono ?_; rintro e w7 ⟨c0, c1, c2, q1, u1, v1, q2, u2, v2, q3, u3, v3, how, rfl, hx7, hhow⟩; have HP7 := Lib.hid (HPW.out.trans (hx7.mono HPW.out.size)); have HP8 := Lib.hid (HP7.out.alloc HP7.out.size (.cells #[.int .i64 c0, .int .i64 c1, .string c2, .slice q1 u1 v1, .slice q2 u2 v2, .slice q3 u3 v3] 26)); have HHOW := Lib.hid hhow; clear hx7 hhow)
        rcases HHOW.out with rfl | ⟨hsil, hhow⟩
        · go_wp2_with fail
          exact bodyPost_ret (v := .bool true) (by simp [results, Tryz.results3, go_sem]) rfl ⟨rfl, (KEY.out _ HP8.out).1⟩
        · have HSIL := Lib.hid hsil
          have hne : (how == 2) = false := by rcases hhow with rfl | rfl <;> rfl
          clear hsil hhow x0 x1 x2 x3 x4 x5
          obtain ⟨x0, x1, x2, x3, x4, x5⟩ := (KEY.out _ HP8.out).2.2.2.2.2.c
          have hs8 : (w7.alloc (.cells #[.int .i64 c0, .int .i64 c1, .string c2, .slice q1 u1 v1, .slice q2 u2 v2, .slice q3 u3 v3] 26)).heap.size = w7.heap.size + 1 := size_alloc _ _
          generalize w7.alloc (.cells #[.int .i64 c0, .int .i64 c1, .string c2, .slice q1 u1 v1, .slice q2 u2 v2, .slice q3 u3 v3] 26) = w8 at *
          have HP9 := Lib.hid (HP8.out.alloc HP8.out.size (.cells #[.int .i64 x.kind, .int .i64 x.half, .string x.text, .slice a1 x.list.length m1, .slice a2 x.keys.length m2, .slice a3 x.vals.length m3] 26))
          have HB7 := Lib.hid (Box.new w8 x.kind x.half x.text (.slice a1 x.list.length m1) (.slice a2 x.keys.length m2) (.slice a3 x.vals.length m3))
          have HW8 : Hid (w.heap.size + 1 ≤ w8.heap.size) := Lib.hid (by have := HSZ1.out; have := HP8.out.size; omega)
          clear hs8
          go_wp2_with fail
          go_loopw [41] (fun i wr => ∃ (j : Nat) (y : J) (o1 : Option Addr) (r1 : Nat) (o2 : Option Addr) (r2 : Nat) (o3 : Option Addr) (r3 : Nat), j ≤ l.length ∧ i = .int .i64 j ∧ Box wr w8.heap.size y.kind y.half y.text (.slice o1 y.list.length r1) (.slice o2 y.keys.length r2) (.slice o3 y.vals.length r3) ∧ JRep wr (fun b => b < wr.heap.size ∧ b ≠ w8.heap.size) y (.agg #[.int .i64 y.kind, .int .i64 y.half, .string y.text, .slice o1 y.list.length r1, .slice o2 y.keys.length r2, .slice o3 y.vals.length r3]) ∧ y.ok ∧ Below W1.heap.size W1 wr ∧ getJ y (p.drop j) = getJ x p ∧ silJ y (p.drop j) = false) (fun i _ => l.length - (RowKit.intOf i).toNat)
          case atStart =>
            refine ⟨0, x, a1, m1, a2, m2, a3, m3, Nat.zero_le _, rfl, HB7.out, ?_, fit_ok HXF.out, HP9.out, rfl, HSIL.out⟩
            exact JRep.keep (x := x) (jrep_of HU.out (KEY.out _ HP9.out).2.2.2.1) (fun _ _ => rfl) (fun b hb => ⟨(KEY.out _ HP9.out).2.2.1 b hb, fun e => by have := (KEY.out _ HPW.out).1.size; have := HW8.out; have := HS.out b hb; omega⟩)
          case round =>
            obtain ⟨j, y, o1, r1, o2, r2, o3, r3, hj1, rfl, hbx, hjr, hyo, hbw, hget, hsil⟩ := hrel
            clear x0 x1 x2 x3 x4 x5 
            have HBW := Lib.hid hbw
            have HGPD := Lib.hid (fun w1 (h1 : Below W1.heap.size W1 w1) => GetPath_door x (.arr p) (fit_ok HXF.out) (fit_ok HPF.out) (getJ x p) (fun w2 g1 g2 h1 h2 => ZzGetPath_ok x p HKK.out (fit_ok HXF.out) (by have := HP20.out; omega) w2 g1 g2 h1 h2) w1 S (KEY.out _ h1).2.2.1 (.agg #[.int .i64 x.kind, .int .i64 x.half, .string x.text, .slice a1 x.list.length m1, .slice a2 x.keys.length m2, .slice a3 x.vals.length m3]) (.agg #[.int .i64 5, .int .i64 0, .string ⟨#[]⟩, .slice pa l.length pc, .slice none 0 0, .slice none 0 0]) (jrep_of HU.out (KEY.out _ h1).2.2.2.1) (JRep.keep (x := .arr p) (show VRep w1 S (J.arr p).toV _ from by have := vrep_arr (KEY.out _ h1).2.2.2.2.1; rw [HL.out] at this; rw [HL.out]; exact this) (fun _ _ => rfl) (fun _ h => h)))
            by_cases hlt : j < l.length
            · have hjp : j < p.length := by have := HLEN.out; omega
              obtain ⟨bb, oo, rfl, hsb, g0, g1, g2, g3, g4, g5, f0, f1, f2, f3, f4, f5, hrk⟩ := (jsl_of HL.out (KEY.out _ HBW.out).2.2.2.2.1).at' j hjp
              obtain ⟨e1, s1, e2, s2, e3, s3, rfl, rfl, rfl, rfl, rfl, rfl⟩ := hrk.cells6
              have hB2 := below1 wr (.cells #[.int .i64 p[j].kind, .int .i64 p[j].half, .string p[j].text, .slice e1 p[j].list.length s1, .slice e2 p[j].keys.length s2, .slice e3 p[j].vals.length s3] 26)
              have HBW2 := Lib.hid (HBW.out.trans (hB2.mono HBW.out.size))
              have HBX2 := Lib.hid (hbx.bl hB2)
              have HBK := Lib.hid (Box.new wr p[j].kind p[j].half p[j].text (.slice e1 p[j].list.length s1) (.slice e2 p[j].keys.length s2) (.slice e3 p[j].vals.length s3))
              have hkj := HKK.out p[j] (List.getElem_mem hjp)
              have hpo : p[j].ok := fit_ok ((oksn_iff _ _).1 HPF.out.2 _ (List.getElem_mem hjp))
              rw [silJ_drop y p j hjp, Bool.or_eq_false_iff] at hsil
              rw [getJ_drop y p j hjp] at hget
              have HDR := Lib.hid (And.intro hget hsil)
              have HIX := Lib.hid (Index_door y p[j] hyo hpo (idxJ y p[j]) (fun w1 g1 g2 h1 h2 => ZzIndex_ok y p[j] hkj hsil.1 hyo w1 g1 g2 h1 h2) _ (allB _) (fun _ h => h) _ _ (hjr.keep (.of_below hB2 (fun b hb => hb.1)) (fun b hb => Nat.lt_of_lt_of_le hb.1 hB2.size)) (hrk.keep (.of_below hB2 (KEY.out _ HBW.out).2.2.1) (fun b hb => Nat.lt_of_lt_of_le ((KEY.out _ HBW.out).2.2.1 b hb) hB2.size)))
              have HYO := Lib.hid hyo
              have HB7L := Lib.hid (World.block_lt_of_cell? wr _ hbx.c.1)
              have HSW2 := Lib.hid (size_alloc wr (.cells #[.int .i64 p[j].kind, .int .i64 p[j].half, .string p[j].text, .slice e1 p[j].list.length s1, .slice e2 p[j].keys.length s2, .slice e3 p[j].vals.length s3] 26))
              clear hbx hjr hyo hbw hget hsil hrk hB2 hkj hpo
              go_upto_region 12 with fail
              generalize wr.alloc (.cells #[.int .i64 p[j].kind, .int .i64 p[j].half, .string p[j].text, .slice e1 p[j].list.length s1, .slice e2 p[j].keys.length s2, .slice e3 p[j].vals.length s3] 26) = w9 at *
              obtain ⟨x0, x1, x2, x3, x4, x5⟩ := HBX2.out.c
              obtain ⟨y0, y1, y2, y3, y4, y5⟩ := HBK.out.c
              go_upto_region 13 with (go_at_call 15; refine HIX.out.mono ?_; rintro e w10 ⟨c0', c1', c2', c3', c4', c5', en, z, rfl, hb', hj, hres⟩; obtain ⟨q1', v1', q2', v2', q3', v3', rfl, rfl, rfl, rfl, rfl, rfl⟩ := hj.cells6; have hB3 := below1 w10 (.cells #[.int .i64 z.kind, .int .i64 z.half, .string z.text, .slice q1' z.list.length v1', .slice q2' z.keys.length v2', .slice q3' z.vals.length v3', .int .i64 en] 35); have HBW3 := Lib.hid ((HBW2.out.trans (hb'.mono HBW2.out.size)).alloc (Nat.le_trans HBW2.out.size hb'.size) (.cells #[.int .i64 z.kind, .int .i64 z.half, .string z.text, .slice q1' z.list.length v1', .slice q2' z.keys.length v2', .slice q3' z.vals.length v3', .int .i64 en] 35)); have HBX3 := Lib.hid ((HBX2.out.bl hb').bl hB3); have HR7 := Lib.hid (Box7.new w10 z.kind z.half z.text (.slice q1' z.list.length v1') (.slice q2' z.keys.length v2') (.slice q3' z.vals.length v3') en); have HJ3 := Lib.hid (hj.keep (.of_below hB3 (fun b hb => hb.2)) (fun b hb => (show w9.heap.size ≤ b ∧ b < (w10.alloc (.cells #[.int .i64 z.kind, .int .i64 z.half, .string z.text, .slice q1' z.list.length v1', .slice q2' z.keys.length v2', .slice q3' z.vals.length v3', .int .i64 en] 35)).heap.size from ⟨hb.1, Nat.lt_of_lt_of_le hb.2 hB3.size⟩))); have HRES := Lib.hid hres; have HSZ10 := Lib.hid hb'.size; clear hb' hj hres hB3)
              generalize w10.alloc (.cells #[.int .i64 z.kind, .int .i64 z.half, .string z.text, .slice q1' z.list.length v1', .slice q2' z.keys.length v2', .slice q3' z.vals.length v3', .int .i64 en] 35) = w11 at *
              clear x0 x1 x2 x3 x4 x5 y0 y1 y2 y3 y4 y5
              obtain ⟨x0, x1, x2, x3, x4, x5⟩ := HBX3.out.c
              obtain ⟨y0, y1, y2, y3, y4, y5, y6⟩ := HR7.out.c
              have xf := HBX3.out.f
              cases hi : idxJ y p[j] with
              | some z' =>
                rw [hi] at HRES HDR
                obtain ⟨rfl, rfl⟩ := (show z = z' ∧ en = 0 from HRES.out)
                have HI := Lib.hid hi
                clear hi HRES
                go_wp2_with fail
                go_roundw
                case rel => exact ⟨j + 1, z, q1', v1', q2', v2', q3', v3', hlt, by go_num, set6_box HBX3.out, HJ3.out.keep (fun b hb => set6_other _ _ _ _ _ _ b (by have := hb.1; have := HB7L.out; have := HSW2.out; omega)) (fun b hb => ⟨Nat.lt_of_lt_of_eq hb.2 (set6_size (b := w8.heap.size) (w := w11) _ _ _ _ _ _).symm, by have := hb.1; have := HB7L.out; have := HSW2.out; omega⟩), okJ_idx HYO.out HI.out, HBW3.out.trans (below_set6 (by have := HP8.out.size; omega) _ _ _ _ _ _), HDR.out.1, HDR.out.2.2⟩
                case measure => simp [RowKit.intOf]; omega
              | none =>
                obtain ⟨rfl, rfl⟩ := (show z = .null ∧ en = 1 from by have := HRES.out; rw [hi] at this; exact this)
                have HGN : Hid (getJ x p = none) := Lib.hid (by have := HDR.out.1; rw [hi] at this; exact this.symm)
                have CELLS2 : Hid (∀ w1, Below w11.heap.size w11 w1 → (w1.cell? ⟨w.heap.size, 0, none⟩ = some (.int .i64 x.kind) ∧ w1.cell? ⟨w.heap.size, 1, none⟩ = some (.int .i64 x.half) ∧ w1.cell? ⟨w.heap.size, 2, none⟩ = some (.string x.text) ∧ w1.cell? ⟨w.heap.size, 3, none⟩ = some (.slice a1 x.list.length m1) ∧ w1.cell? ⟨w.heap.size, 4, none⟩ = some (.slice a2 x.keys.length m2) ∧ w1.cell? ⟨w.heap.size, 5, none⟩ = some (.slice a3 x.vals.length m3)) ∧ w1.cell? ⟨w10.heap.size, 6, none⟩ = some (.int .i64 1)) := Lib.hid fun w1 h1 => ⟨CELLS.out w1 (HBW3.out.trans (h1.mono HBW3.out.size)), (Box7.c ((h1.block w10.heap.size (World.block_lt_of_cell? w11 _ HR7.out.c.1)).trans HR7.out)).2.2.2.2.2.2⟩
                have HQ0 := Lib.hid (Below.refl w11.heap.size w11).drew
                have hf := field35_1
                clear hi HRES x0 x1 x2 x3 x4 x5 y0 y1 y2 y3 y4 y5 xf
                go_upto_region 14 with fail
                clear y6
                go_region_held3 (fun w1 => (w1.cell? ⟨w.heap.size, 0, none⟩ = some (.int .i64 x.kind) ∧ w1.cell? ⟨w.heap.size, 1, none⟩ = some (.int .i64 x.half) ∧ w1.cell? ⟨w.heap.size, 2, none⟩ = some (.string x.text) ∧ w1.cell? ⟨w.heap.size, 3, none⟩ = some (.slice a1 x.list.length m1) ∧ w1.cell? ⟨w.heap.size, 4, none⟩ = some (.slice a2 x.keys.length m2) ∧ w1.cell? ⟨w.heap.size, 5, none⟩ = some (.slice a3 x.vals.length m3)) ∧ w1.cell? ⟨w10.heap.size, 6, none⟩ = some (.int .i64 1))
                  (first | with_reducible exact CELLS2.out _ HQ0.out | with_reducible exact CELLS2.out _ HQ1.out | with_reducible exact CELLS2.out _ HQ2.out | with_reducible exact CELLS2.out _ HQ3.out)
                  (first
                    | (go_at_call 12; refine (HARR.out _).mono ?_; rintro e w12 ⟨rfl, hx⟩; have HQ1 := Lib.hid (HQ0.out.trans (hx.mono HQ0.out.size)); clear hx)
                    | (go_at_call 16; refine (HGPD.out _ (HBW3.out.trans (HQ1.out.mono HBW3.out.size))).mono ?_; rintro e w13 ⟨c0', c1', c2', c3', c4', c5', en', zz, rfl, hx, hjj, hres'⟩; obtain ⟨rfl, rfl⟩ : zz = .null ∧ en' = 1 := (by have := hres'; rw [HGN.out] at this; exact this); have HQ2 := Lib.hid (HQ1.out.trans (hx.mono HQ1.out.size)); clear hx hjj hres'))
                go_wp2_with fail
                exact bodyPost_ret (v := .bool true) (by simp [results, Tryz.results3, go_sem]) rfl ⟨rfl, (KEY.out _ (HBW3.out.trans (HQ2.out.mono HBW3.out.size))).1⟩
            · have hje : p.drop j = [] := List.drop_eq_nil_of_le (by have := HLEN.out; omega)
              have HGN : Hid (getJ x p = some y) := Lib.hid (by rw [← hget, hje]; rfl)
              have CELLS3 : Hid (∀ w1, Below wr.heap.size wr w1 → (w1.cell? ⟨w.heap.size, 0, none⟩ = some (.int .i64 x.kind) ∧ w1.cell? ⟨w.heap.size, 1, none⟩ = some (.int .i64 x.half) ∧ w1.cell? ⟨w.heap.size, 2, none⟩ = some (.string x.text) ∧ w1.cell? ⟨w.heap.size, 3, none⟩ = some (.slice a1 x.list.length m1) ∧ w1.cell? ⟨w.heap.size, 4, none⟩ = some (.slice a2 x.keys.length m2) ∧ w1.cell? ⟨w.heap.size, 5, none⟩ = some (.slice a3 x.vals.length m3)) ∧ (w1.cell? ⟨w8.heap.size, 0, none⟩ = some (.int .i64 y.kind) ∧ w1.cell? ⟨w8.heap.size, 1, none⟩ = some (.int .i64 y.half) ∧ w1.cell? ⟨w8.heap.size, 2, none⟩ = some (.string y.text) ∧ w1.cell? ⟨w8.heap.size, 3, none⟩ = some (.slice o1 y.list.length r1) ∧ w1.cell? ⟨w8.heap.size, 4, none⟩ = some (.slice o2 y.keys.length r2) ∧ w1.cell? ⟨w8.heap.size, 5, none⟩ = some (.slice o3 y.vals.length r3))) := Lib.hid fun w1 h1 => ⟨CELLS.out w1 (HBW.out.trans (h1.mono HBW.out.size)), (hbx.bl h1).c⟩
              have HGIV := Lib.hid (fun w1 (h1 : Below wr.heap.size wr w1) (S' : Nat → Prop) (c0 c1 c2 c3 c4 c5 : Value) (hS' : ∀ b, S' b → b < w1.heap.size) (hv : JRep w1 S' y (.agg #[c0, c1, c2, c3, c4, c5])) => given_ok y y 0 w1 (fun b => b < w1.heap.size) c0 c1 c2 c3 c4 c5 (.agg #[.int .i64 y.kind, .int .i64 y.half, .string y.text, .slice o1 y.list.length r1, .slice o2 y.keys.length r2, .slice o3 y.vals.length r3]) hyo hyo (fun _ h => h) (hv.keep (fun _ _ => rfl) hS') (hjr.keep (.of_below h1 (fun b hb => hb.1)) (fun b hb => Nat.lt_of_lt_of_le hb.1 h1.size)) (by decide))
              have HQ0 := Lib.hid (Below.refl wr.heap.size wr).drew
              clear hbx hjr hyo hbw hget hsil hje
              go_wp2_with fail
              go_region_held3 (fun w1 => (w1.cell? ⟨w.heap.size, 0, none⟩ = some (.int .i64 x.kind) ∧ w1.cell? ⟨w.heap.size, 1, none⟩ = some (.int .i64 x.half) ∧ w1.cell? ⟨w.heap.size, 2, none⟩ = some (.string x.text) ∧ w1.cell? ⟨w.heap.size, 3, none⟩ = some (.slice a1 x.list.length m1) ∧ w1.cell? ⟨w.heap.size, 4, none⟩ = some (.slice a2 x.keys.length m2) ∧ w1.cell? ⟨w.heap.size, 5, none⟩ = some (.slice a3 x.vals.length m3)) ∧ (w1.cell? ⟨w8.heap.size, 0, none⟩ = some (.int .i64 y.kind) ∧ w1.cell? ⟨w8.heap.size, 1, none⟩ = some (.int .i64 y.half) ∧ w1.cell? ⟨w8.heap.size, 2, none⟩ = some (.string y.text) ∧ w1.cell? ⟨w8.heap.size, 3, none⟩ = some (.slice o1 y.list.length r1) ∧ w1.cell? ⟨w8.heap.size, 4, none⟩ = some (.slice o2 y.keys.length r2) ∧ w1.cell? ⟨w8.heap.size, 5, none⟩ = some (.slice o3 y.vals.length r3)))
                (first | with_reducible exact CELLS3.out _ HQ0.out | with_reducible exact CELLS3.out _ HQ1.out | with_reducible exact CELLS3.out _ HQ2.out | with_reducible exact CELLS3.out _ HQ3.out)
                (first
                  | (go_at_call 12; refine (HARR.out _).mono ?_; rintro e w12 ⟨rfl, hx⟩; have HQ1 := Lib.hid (HQ0.out.trans (hx.mono HQ0.out.size)); clear hx)
                  | (go_at_call 16; refine (HGPD.out _ (HBW.out.trans (HQ1.out.mono HBW.out.size))).mono ?_; rintro e w13 ⟨c0', c1', c2', c3', c4', c5', en', zz, rfl, hx, hjj, hres'⟩; obtain ⟨rfl, rfl⟩ : zz = y ∧ en' = 0 := (by have := hres'; rw [HGN.out] at this; exact this); have HQ2 := Lib.hid (HQ1.out.trans (hx.mono HQ1.out.size)); have HJJ := Lib.hid hjj; clear hx hjj hres')
                  | (go_at_call 17; refine (HGIV.out _ HQ2.out _ _ _ _ _ _ _ (fun _ h => h.2) HJJ.out).mono ?_; rintro e w14 ⟨rfl, hx⟩; have HQ3 := Lib.hid (HQ2.out.trans (hx.mono HQ2.out.size)); clear hx))
              go_wp2_with fail
              exact bodyPost_ret (v := .bool true) (by simp [results, Tryz.results3, go_sem, cmpJ_self]) rfl ⟨rfl, (KEY.out _ (HBW.out.trans (HQ3.out.mono HBW.out.size))).1⟩
      · go_wp2_with fail
        exact bodyPost_ret (v := .bool true) (by simp [results, Tryz.results3, go_sem]) rfl ⟨rfl, (KEY.out _ HPW.out).1⟩
end Go.Gj
