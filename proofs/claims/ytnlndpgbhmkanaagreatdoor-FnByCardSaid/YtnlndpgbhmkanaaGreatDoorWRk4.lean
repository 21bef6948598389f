/-
  spec.ranks.
-/
import Derived.Test.YtnlndpgbhmkanaaGreatDoorPlX
import Derived.Test.YtnlndpgbhmkanaaGreatDoorWFromL
import Derived.Test.YtnlndpgbhmkanaaGreatDoorWSb5
import Derived.Test.YtnlndpgbhmkanaaGreatDoorWFitB
import Derived.Test.YtnlndpgbhmkanaaGreatDoorWLaw
namespace Go.Gj
set_option linter.unusedSimpArgs false
set_option linter.unusedVariables false
set_option linter.unnecessarySimpa false
open Go Go.RowKit Go.Proofs

/-- A slice of records that has an element: where its row stands. -/
theorem JSl.row {w : World} {S : Nat → Prop} {l : List J} {v : Value} (h : JSl w S l v) (h0 : 0 < l.length) : ∃ b o c, v = .slice (some ⟨b, o, none⟩) l.length c ∧ S b ∧ ∀ i (hi : i < l.length),
    ∃ c0 c1 c2 c3 c4 c5, w.cell? ⟨b, o + i * 6, none⟩ = some c0 ∧ w.cell? ⟨b, o + i * 6 + 1, none⟩ = some c1 ∧ w.cell? ⟨b, o + i * 6 + 2, none⟩ = some c2 ∧
      w.cell? ⟨b, o + i * 6 + 3, none⟩ = some c3 ∧ w.cell? ⟨b, o + i * 6 + 4, none⟩ = some c4 ∧ w.cell? ⟨b, o + i * 6 + 5, none⟩ = some c5 ∧ JRep w S l[i] (.agg #[c0, c1, c2, c3, c4, c5]) := by
  obtain ⟨a, c, rfl, _, h⟩ := h.at
  obtain ⟨b, o, rfl, hb, _⟩ := h 0 h0
  refine ⟨b, o, c, rfl, hb, fun i hi => ?_⟩
  obtain ⟨b', o', e, _, h⟩ := h i hi
  simp only [Option.some.injEq, Addr.mk.injEq, and_true] at e
  obtain ⟨rfl, rfl⟩ := e
  exact h

theorem info3 : (Tryz.prog.info? 3).map (fun i => (i.zero, i.size, i.bytes)) = some (some (.int .i64 0), 1, 8) := by kernel_rfl

def ints (l : List Nat) : List Value := l.map fun (i : Nat) => Value.int .i64 (i : Int)

theorem ints_append (l m : List Nat) : ints (l ++ m) = ints l ++ ints m := by simp [ints]
theorem ints_length (l : List Nat) : (ints l).length = l.length := by simp [ints]
theorem ints_at (l : List Nat) (i : Nat) : (ints l)[i]? = l[i]?.map fun (i : Nat) => Value.int .i64 (i : Int) := by simp [ints]
theorem ints_one (l : List Nat) : ∀ u ∈ ints l, u.oneCell' = true := fun u hu => by
  obtain ⟨i, _, rfl⟩ := List.mem_map.1 hu
  rfl

theorem ownsRow_weak {w : World} {b b' : Nat} {e : TypeId} {z : Nat} {v : Value} {n : Nat} {xs : List Value} (h : w.ownsRow b e z v n xs) (hb : b' ≤ b) : w.ownsRow b' e z v n xs := by
  obtain ⟨h1, h | ⟨g, cap, cur, hv, hg, h⟩⟩ := h
  · exact ⟨h1, .inl h⟩
  · exact ⟨h1, .inr ⟨g, cap, cur, hv, Nat.le_trans hb hg, h⟩⟩

/-- append of cells that stand somewhere, or of nothing, to a row of int of our own. -/
theorem append_ints (w : World) (base : Nat) (v : Value) (n : Nat) (xs : List Value) (hown : w.ownsRow base 3 1 v n xs) (src : Value) (news : List Nat)
    (hsrc : (src = .slice none 0 0 ∧ news = []) ∨ ∃ ad c, src = .slice (some ad) news.length c ∧ ∀ j u, (ints news)[j]? = some u → w.cell? (ad.add j) = some u) (hn : n ≤ 2000000) (hm : news.length ≤ 2000000) (hbase : base ≤ w.heap.size) :
    ∃ v' w', (∀ ty, (Builtin.append_ #[91, 91] ty #[v, src]).run Tryz.prog w = .ok v' w') ∧ w'.ownsRow base 3 1 v' (n + news.length) (xs ++ ints news) ∧ w.grownBy w' v.ownBlock := by
  obtain ⟨i0, hi, hz0, hz1, hz2⟩ := info_parts info3
  rcases hsrc with ⟨rfl, rfl⟩ | ⟨ad, c, rfl, hnews⟩
  · refine ⟨v, w, fun ty => run_append_owned_none (P := Tryz.prog) w base 91 ty 3 i0 1 Tryz.underlying91 hi v n xs hown, by simpa [ints] using hown, ⟨rfl, rfl, rfl, Nat.le_refl _, fun _ _ _ => rfl⟩⟩
  · obtain ⟨v', w', h, h2, h3, h4⟩ := run_append_own (P := Tryz.prog) w base 91 0 3 i0 (.int .i64 0) 1 8 Tryz.underlying91 hi hz0 hz1 hz2 rfl (by decide) v n xs hown ad news.length c (ints news) (by rw [ints_length]; omega) hnews (ints_one news) (by simp only [maxLen]; omega) (by omega) hbase
    exact ⟨v', w', fun ty => h, h2, h3⟩
end Go.Gj

/-
  spec.ranks.
-/
namespace Go.Gj
set_option linter.unusedSimpArgs false
set_option linter.unusedVariables false
set_option linter.unnecessarySimpa false
open Go Go.RowKit Go.Proofs

/-- The three appends of a round. -/
theorem ins_run (w : World) (v : Value) (k : Nat) (out : List Nat) (hlen : out.length = k) (hown : ∃ b, w.ownsRow b 3 1 v k (ints out)) (a : Nat) (ha : a ≤ k) (hk : k ≤ 1000000) (x : Nat) (src1 src3 : Value)
    (hs : (v = .slice none 0 0 ∧ src1 = .slice none 0 0 ∧ src3 = .slice none 0 0) ∨ ∃ g cap c1 ad c3, v = .slice (some ⟨g, 0, none⟩) k cap ∧ src1 = .slice (some ⟨g, 0, none⟩) a c1 ∧ src3 = .slice (some ad) (k - a) c3 ∧ (a < k → ad = ⟨g, a, none⟩)) :
    ∃ v1 w1 v2 w2 v3 w3, (∀ ty, (Builtin.append_ #[91, 91] ty #[.slice (some ⟨w.heap.size, 0, none⟩) 0 0, src1]).run Tryz.prog (w.alloc (.cells #[] 3)) = .ok v1 w1) ∧
      (∀ ty, (Builtin.append_ #[91, 91] ty #[v1, .slice (some ⟨w1.heap.size, 0, none⟩) 1 1]).run Tryz.prog (w1.alloc (.cells #[.int .i64 (x : Int)] 3)) = .ok v2 w2) ∧
      (∀ ty, (Builtin.append_ #[91, 91] ty #[v2, src3]).run Tryz.prog w2 = .ok v3 w3) ∧
      (∃ d n c, v1 = .slice d n c) ∧ (∃ d n c, v2 = .slice d n c) ∧ w3.ownsRow w.heap.size 3 1 v3 (k + 1) (ints (out.take a ++ x :: out.drop a)) ∧ Below w.heap.size w w3 := by
  obtain ⟨b, hown⟩ := hown
  have hb0 := below1 w (.cells #[] 3)
  have hs0 := size_alloc w (.cells #[] 3)
  have ho0 : (w.alloc (.cells #[] 3)).ownsRow w.heap.size 3 1 (.slice (some ⟨w.heap.size, 0, none⟩) 0 0) 0 [] := World.ownsRow_lit w #[] 0 (Nat.le_refl _) (Nat.zero_le _) rfl
  have hat : ∀ (wx : World), Below w.heap.size w wx → ∀ g cap, v = .slice (some ⟨g, 0, none⟩) k cap → ∀ j u, (ints out)[j]? = some u → wx.cell? ⟨g, j, none⟩ = some u := fun wx hx g cap hv j u hu => by
    have := (own_below hown hx).cells (g := g) (by rw [hv]; rfl) j u hu
    rw [addr_add] at this
    simpa using this
  obtain ⟨v1, w1, r1, o1, g1⟩ := append_ints (w.alloc (.cells #[] 3)) w.heap.size _ 0 [] ho0 src1 (out.take a) (by
    rcases hs with ⟨rfl, h1, _⟩ | ⟨g, cap, c1, ad, c3, rfl, h1, _⟩
    · left
      refine ⟨h1, ?_⟩
      have := hown.1
      rcases hown.2 with ⟨_, h⟩ | ⟨g', _, _, h, _⟩
      · rw [h] at hlen
        have : out = [] := List.length_eq_zero_iff.1 hlen
        simp [this]
      · cases h
    · refine .inr ⟨⟨g, 0, none⟩, c1, by rw [h1, List.length_take, hlen, Nat.min_eq_left ha], fun j u hu => ?_⟩
      rw [addr_add]
      refine hat _ hb0 g cap rfl j u ?_
      rw [ints_at, List.getElem?_take] at hu
      rw [ints_at]
      split at hu
      · exact hu
      · cases hu) (by omega) (by rw [List.length_take]; omega) (by omega)
  have hb1 : Below w.heap.size w w1 := hb0.trans (grown_below g1 (by omega) (fun k hk => by simp [Value.ownBlock] at hk; omega))
  have hb2 := hb1.alloc hb1.size (.cells #[.int .i64 (x : Int)] 3)
  have ho1 : (w1.alloc (.cells #[.int .i64 (x : Int)] 3)).ownsRow w.heap.size 3 1 v1 (0 + (out.take a).length) ([] ++ ints (out.take a)) := own_below o1 (below1 w1 _)
  obtain ⟨v2, w2, r2, o2, g2⟩ := append_ints _ w.heap.size _ _ _ ho1 (.slice (some ⟨w1.heap.size, 0, none⟩) 1 1) [x] (.inr ⟨_, _, rfl, fun j u hu => by
    have hj : j = 0 := by
      have := (List.getElem?_eq_some_iff.1 hu).1
      simp [ints] at this; omega
    subst hj
    simp [ints] at hu
    subst hu
    unfold World.cell?
    rw [addr_add]
    show (match (w1.alloc (.cells #[.int .i64 (x : Int)] 3)).heap[w1.heap.size]? with | some (.cells c elem frozen) => c[0 + 0]? | x => none) = _
    rw [heap_alloc_new]
    rfl⟩) (by rw [List.length_take]; omega) (by simp) hb2.size
  have hb3 : Below w.heap.size w w2 := hb2.trans (grown_below g2 hb2.size (fun k hk => (ho1.lt k hk).1))
  obtain ⟨v3, w3, r3, o3, g3⟩ := append_ints _ w.heap.size _ _ _ o2 src3 (out.drop a) (by
    rcases hs with ⟨rfl, _, h1⟩ | ⟨g, cap, c1, ad, c3, rfl, _, h1, h2⟩
    · left
      refine ⟨h1, ?_⟩
      rcases hown.2 with ⟨_, h⟩ | ⟨g', _, _, h, _⟩
      · rw [h] at hlen
        have : out = [] := List.length_eq_zero_iff.1 hlen
        simp [this]
      · cases h
    · refine .inr ⟨ad, c3, by rw [h1, List.length_drop, hlen], fun j u hu => ?_⟩
      rw [ints_at, List.getElem?_drop] at hu
      have hja : a + j < out.length := by
        rcases Nat.lt_or_ge (a + j) out.length with h | h
        · exact h
        · rw [List.getElem?_eq_none h] at hu; cases hu
      rw [h2 (by omega)]
      rw [show (⟨g, a, none⟩ : Addr).add j = ⟨g, a + j, none⟩ by simp [Addr.add]]
      exact hat _ hb3 g cap rfl (a + j) u (by rw [ints_at]; exact hu)) (by rw [List.length_take]; simp; omega) (by rw [List.length_drop]; omega) hb3.size
  have hb4 : Below w.heap.size w w3 := hb3.trans (grown_below g3 hb3.size (fun k hk => (o2.lt k hk).1))
  refine ⟨v1, w1, v2, w2, v3, w3, r1, r2, r3, (by obtain ⟨d, c, h⟩ := own_shape o1; exact ⟨_, _, _, h⟩), (by obtain ⟨d, c, h⟩ := own_shape o2; exact ⟨_, _, _, h⟩), ?_, hb4⟩
  have e1 : 0 + (out.take a).length + [x].length + (out.drop a).length = k + 1 := by simp; omega
  have e2 : [] ++ ints (out.take a) ++ ints [x] ++ ints (out.drop a) = ints (out.take a ++ x :: out.drop a) := by simp [ints]
  rw [e1, e2] at o3
  exact o3

theorem own_shape' {w : World} {base : Nat} {e : TypeId} {size : Nat} {va : Option Addr} {n c : Nat} {xs : List Value} (h : w.ownsRow base e size (.slice va n c) n xs) : (va = none ∧ n = 0 ∧ c = 0) ∨ ∃ g, va = some ⟨g, 0, none⟩ ∧ n ≤ c := by
  rcases h.2 with ⟨h, h'⟩ | ⟨g, cap, cur, h, _, _, h2, _⟩
  · simp only [Value.slice.injEq] at h
    exact .inl h
  · simp only [Value.slice.injEq, true_and] at h
    obtain ⟨rfl, rfl⟩ := h
    exact .inr ⟨g, rfl, h2⟩

set_option maxHeartbeats 4000000 in
set_option maxRecDepth 100000 in
theorem ranks_ok (ks : List J) (hok : ∀ k ∈ ks, k.ok) (hlen : ks.length ≤ lim) (w : World) (S : Nat → Prop) (hS : ∀ b, S b → b < w.heap.size) (vb : Value) (hb : JSl w S ks vb) :
    Calls Tryz.prog 85 #[vb] w fun e w' => ∃ v, e = .returned v ∧ Below w.heap.size w w' ∧ w'.ownsRow w.heap.size 3 1 v ks.length (ints (ranks ks)) := by
  have HOK := Lib.hid (And.intro hok hS)
  have HB := Lib.hid hb
  obtain ⟨sa, sc, rfl, hn, _⟩ := hb.at
  clear hok hS hb
  unfold lim at hlen
  go_enter Tryz.func85, Tryz.ntmps85
  go_wp2_with fail
  go_loopw [3, 10] (fun v3 v10 wr => ∃ (k : Nat), v10 = .int .i64 k ∧ k ≤ ks.length ∧ Below w.heap.size w wr ∧ wr.ownsRow w.heap.size 3 1 v3 k (ints (rankN ks k))) (fun _ v10 _ => ks.length - (Go.RowKit.intOf v10).toNat)
  case atStart => exact ⟨0, rfl, Nat.zero_le _, Below.refl _ _, World.ownsRow_nil _ _ _ _⟩
  case round =>
    obtain ⟨k, rfl, hk, hbw, hown⟩ := hrel
    obtain ⟨va, vc, rfl⟩ := own_shape hown
    have HBW := Lib.hid hbw
    have HOWN := Lib.hid hown
    clear hbw hown
    by_cases hlt : k < ks.length
    · have hlt' : (k : Int) < ks.length := by omega
      obtain ⟨b, o, c, hv, hSb, hat⟩ := HB.out.row (by omega)
      simp only [Value.slice.injEq, true_and] at hv
      obtain ⟨rfl, rfl⟩ := hv
      obtain ⟨c0, c1, c2, c3, c4, c5, h0, h1, h2, h3, h4, h5, hrep⟩ := hat k hlt
      have hbl := HOK.out.2 b hSb
      rw [← HBW.out.cell hbl] at h0 h1 h2 h3 h4 h5
      have HREP := Lib.hid hrep
      have HAT := Lib.hid hat
      clear hat hrep
      obtain ⟨rk, rh, rt, a1, n1, m1, a2, n2, m2, a3, n3, m3, rfl, rfl, rfl, rfl, rfl, rfl⟩ := HREP.out.shape6
      go_upto_block 2 with fail
      have hw1 := below1 wr (.cells #[.int .i64 rk, .int .i64 rh, .string rt, .slice a1 n1 m1, .slice a2 n2 m2, .slice a3 n3 m3] 26)
      have hbox : Box (wr.alloc (.cells #[.int .i64 rk, .int .i64 rh, .string rt, .slice a1 n1 m1, .slice a2 n2 m2, .slice a3 n3 m3] 26)) wr.heap.size rk rh rt (.slice a1 n1 m1) (.slice a2 n2 m2) (.slice a3 n3 m3) := Box.new _ _ _ _ _ _ _
      have hsw := size_alloc wr (.cells #[.int .i64 rk, .int .i64 rh, .string rt, .slice a1 n1 m1, .slice a2 n2 m2, .slice a3 n3 m3] 26)
      have HW1 := Lib.hid (And.intro (HBW.out.trans (hw1.mono HBW.out.size)) (own_below HOWN.out hw1))
      have HBOX := Lib.hid hbox
      generalize wr.alloc (.cells #[.int .i64 rk, .int .i64 rh, .string rt, .slice a1 n1 m1, .slice a2 n2 m2, .slice a3 n3 m3] 26) = w1 at *
      clear hbox hw1 h0 h1 h2 h3 h4 h5 HOWN
      have hlr : (rankN ks k).length = k := (rankN_ok HOK.out.1 k).2.2
      have hsz1 := HW1.out.1.size
      have HCELL : Hid (∀ wx, Below w1.heap.size w1 wx → ∀ i (hi : i < ks.length), ∃ c0 c1 c2 c3 c4 c5, wx.cell? ⟨b, o + i * 6, none⟩ = some c0 ∧ wx.cell? ⟨b, o + i * 6 + 1, none⟩ = some c1 ∧ wx.cell? ⟨b, o + i * 6 + 2, none⟩ = some c2 ∧
          wx.cell? ⟨b, o + i * 6 + 3, none⟩ = some c3 ∧ wx.cell? ⟨b, o + i * 6 + 4, none⟩ = some c4 ∧ wx.cell? ⟨b, o + i * 6 + 5, none⟩ = some c5 ∧ JRep w S ks[i] (.agg #[c0, c1, c2, c3, c4, c5])) := Lib.hid fun wx hx i hi => by
        obtain ⟨c0, c1, c2, c3, c4, c5, h0, h1, h2, h3, h4, h5, hr⟩ := HAT.out i hi
        have hcx : ∀ p : Addr, p.block < w.heap.size → wx.cell? p = w.cell? p := fun p hp => (HW1.out.1.trans (hx.mono hsz1)).cell hp
        exact ⟨c0, c1, c2, c3, c4, c5, (hcx _ hbl).trans h0, (hcx _ hbl).trans h1, (hcx _ hbl).trans h2, (hcx _ hbl).trans h3, (hcx _ hbl).trans h4, (hcx _ hbl).trans h5, hr⟩
      go_cut [6] (fun v6 wx => v6 = .int .i64 (atR ks (rankN ks k) k k) ∧ Below w1.heap.size w1 wx)
      case first =>
        go_wp2_with fail
        go_loopw [6] (fun v6 wq => ∃ (a : Nat), v6 = .int .i64 a ∧ a ≤ k ∧ atR ks (rankN ks k) k a = atR ks (rankN ks k) k k ∧ Below w1.heap.size w1 wq) (fun v6 _ => (Go.RowKit.intOf v6).toNat)
        case atStart => exact ⟨k, rfl, Nat.le_refl _, rfl, Below.refl _ _⟩
        case round =>
          obtain ⟨a, rfl, hak, hat, hbq⟩ := hrel
          by_cases ha0 : a = 0
          · subst ha0
            have HR := Lib.hid hat
            have HBQ := Lib.hid hbq
            clear hat hbq
            go_upto_region 6 with fail
            refine wp_region_quiet_tail 12 (by kernel_rfl) (by kernel_rfl) ?_
            simp only [List.take_succ_cons, List.take_zero, List.drop_succ_cons, List.drop_zero]
            repeat (go_big_quiet_step (fail))
            refine wpQuiet_nil ?_
            go_wp2_with fail
            go_meet
            exact ⟨by rw [← HR.out]; rfl, HBQ.out.drew⟩
          · have ha1 : (a : Int) > 0 := by omega
            obtain ⟨ap, rfl⟩ : ∃ ap, a = ap + 1 := ⟨a - 1, by omega⟩
            obtain ⟨g, cap, hva, hvc⟩ : ∃ g cap, va = some ⟨g, 0, none⟩ ∧ vc = cap := by
              rcases HW1.out.2.2 with ⟨h, h'⟩ | ⟨g, cap, cur, h, _⟩
              · simp only [Value.slice.injEq] at h; omega
              · simp only [Value.slice.injEq, true_and] at h
                exact ⟨g, cap, h⟩
            subst hva
            subst hvc
            have hm := (((rankN_ok HOK.out.1 k).2.1) ((rankN ks k)[ap]'(by omega))).1 (List.getElem_mem _)
            have hgd : (rankN ks k).getD ap 0 = (rankN ks k)[ap]'(by omega) := getD_at (by omega)
            have hco := (own_below HW1.out.2 hbq).cells (g := g) rfl ap (.int .i64 ((rankN ks k)[ap]'(by omega) : Nat)) (by rw [ints_at, List.getElem?_eq_getElem (by omega)]; rfl)
            rw [addr_add] at hco
            have hstep : atR ks (rankN ks k) k (ap + 1) = if cmpJ (ks.getD ((rankN ks k)[ap]'(by omega)) .null) (ks.getD k .null) > 0 then atR ks (rankN ks k) k ap else ap + 1 := by rw [atR, hgd]
            generalize (rankN ks k)[ap]'(by omega) = m at hm hco hstep
            clear hgd
            obtain ⟨d0, d1, d2, d3, d4, d5, e0, e1, e2, e3, e4, e5, hrm⟩ := HCELL.out _ hbq m (by omega)
            obtain ⟨x0, x1, x2, x3, x4, x5⟩ := (show Box wr _ _ _ _ _ _ _ from (hbq.block _ (by omega)).trans HBOX.out).c
            obtain ⟨sk, sh, st, b1, p1, q1, b2, p2, q2, b3, p3, q3, rfl, rfl, rfl, rfl, rfl, rfl⟩ := hrm.shape6
            have hgm : ks.getD m .null = ks[m]'(by omega) := getD_J (by omega)
            have hgk : ks.getD k .null = ks[k]'(by omega) := getD_J (by omega)
            rw [hgm, hgk] at hstep
            have HCM := Lib.hid (Cmp_ok _ _ wr.drew S _ _ (HOK.out.1 _ (List.getElem_mem (by omega))) (HOK.out.1 _ (List.getElem_mem (by omega))) (fun b hb => Nat.lt_of_lt_of_le (HOK.out.2 b hb) (Nat.le_trans hsz1 hbq.size)) (hrm.keep (.of_below (HW1.out.1.trans (hbq.drew.mono hsz1)) HOK.out.2) (fun _ h => h)) (HREP.out.keep (.of_below (HW1.out.1.trans (hbq.drew.mono hsz1)) HOK.out.2) (fun _ h => h)))
            generalize cmpJ _ _ = dd at HCM hstep
            have HR := Lib.hid (And.intro hat hstep)
            have HBQ := Lib.hid hbq
            clear hat hstep hbq hrm
            go_upto_region 6 with fail
            refine wp_region_quiet_tail 12 (by kernel_rfl) (by kernel_rfl) ?_
            simp only [List.take_succ_cons, List.take_zero, List.drop_succ_cons, List.drop_zero]
            repeat (go_big_quiet_step (fail))
            refine wpQuiet_nil ?_
            by_cases hdd : dd > 0
            · go_wp2_with (go_at_call 86; refine HCM.out.mono ?_; rintro e wx ⟨rfl, hx⟩; have HX := Lib.hid (HBQ.out.drew.trans (hx.mono (HBQ.out.drew.size))); clear hx)
              go_roundw
              case rel =>
                have h2 := HR.out.2
                rw [if_pos hdd] at h2
                exact ⟨ap, by go_num, by omega, h2.symm.trans HR.out.1, HX.out⟩
              case measure => simp [Go.RowKit.intOf]
            · have hdd' : ¬ dd > 0 := hdd
              have HDD := Lib.hid hdd'
              clear hdd'
              go_wp2_with (go_at_call 86; refine HCM.out.mono ?_; rintro e wx ⟨rfl, hx⟩; have HX := Lib.hid (HBQ.out.drew.trans (hx.mono (HBQ.out.drew.size))); clear hx)
              go_meet
              have h2 := HR.out.2
              rw [if_neg (by have := HDD.out; omega)] at h2
              exact ⟨by rw [← HR.out.1, h2]; go_num, HX.out⟩
      obtain ⟨rfl, hbx⟩ := hcut
      have HBX := Lib.hid hbx
      have hak : atR ks (rankN ks k) k k ≤ k := atR_le _ _ _ _
      have HINS : Hid (rankN ks (k + 1) = (rankN ks k).take (atR ks (rankN ks k) k k) ++ k :: (rankN ks k).drop (atR ks (rankN ks k) k k)) := Lib.hid (by
        show insR ks (rankN ks k) k = _
        unfold insR
        rw [hlr])
      have HLR := Lib.hid hlr
      clear hbx hlr
      generalize atR ks (rankN ks k) k k = a at *
      generalize hout : rankN ks k = out at *
      have HOUT := Lib.hid hout
      clear hout
      rcases own_shape' HW1.out.2 with ⟨rfl, rfl, rfl⟩ | ⟨g, rfl, hkc⟩
      · obtain rfl : a = 0 := by omega
        obtain ⟨v1, y1, v2, y2, v3, y3, r1, r2, r3, -, ⟨d2, n2', c2', rfl⟩, ho, hbz⟩ := ins_run wc _ 0 out HLR.out ⟨_, own_below HW1.out.2 HBX.out⟩ 0 hak (by omega) 0 (.slice none 0 0) (.slice none 0 0) (.inl ⟨rfl, rfl, rfl⟩)
        obtain ⟨i0, hi, hz0, hz1, hz2⟩ := info_parts info3
        have hr0 := run_append_owned_none (P := Tryz.prog) (wc.alloc (.cells #[] 3)) wc.heap.size 91 0 3 i0 1 Tryz.underlying91 hi (.slice (some ⟨wc.heap.size, 0, none⟩) 0 0) 0 [] (World.ownsRow_lit wc #[] 0 (Nat.le_refl _) (Nat.zero_le _) rfl)
        rw [r1 0] at hr0
        injection hr0 with e1 e2
        subst e1
        subst e2
        rw [size_alloc] at r2
        have R2 := Lib.hid r2
        have R3 := Lib.hid r3
        have HO := Lib.hid (And.intro ho hbz)
        have hbb := hbz.size
        obtain ⟨va3, vc3, rfl⟩ := own_shape ho
        clear r1 r2 r3 ho hbz hi hz0 hz1 hz2
        go_upto_region 9 with fail
        go_upto_region 10 with (at_builtin; refine wpList_plain rfl fun _ hK => wp_append_run (.tmp 39) (.tmp 41) 91 rfl rfl rfl (R2.out _) (hK _ _ ?_))
        go_wp2_with (at_builtin; refine wpList_plain rfl fun _ hK => wp_append_run (.tmp 43) (.tmp 46) 91 rfl rfl rfl (R3.out _) (hK _ _ ?_))
        go_roundw
        case rel =>
          refine ⟨1, rfl, by omega, (HW1.out.1.trans (HBX.out.mono hsz1)).trans (HO.out.2.mono (by have := HBX.out.size; omega)), ?_⟩
          rw [HINS.out]
          exact ownsRow_weak HO.out.1 (by have := HBX.out.size; omega)
        case measure => simp [Go.RowKit.intOf]; omega
      · obtain ⟨v1, y1, v2, y2, v3, y3, r1, r2, r3, ⟨d1, n1', c1', rfl⟩, ⟨d2, n2', c2', rfl⟩, ho, hbz⟩ := ins_run wc _ k out HLR.out ⟨_, own_below HW1.out.2 HBX.out⟩ a hak (by omega) k (.slice (some ⟨g, 0, none⟩) a vc) (.slice (if vc = a then some ⟨g, 0, none⟩ else some ⟨g, a, none⟩) (k - a) (vc - a)) (.inr ⟨g, vc, vc, if vc = a then ⟨g, 0, none⟩ else ⟨g, a, none⟩, vc - a, rfl, rfl, by split <;> rfl, fun h => if_neg (by omega)⟩)
        have R1 := Lib.hid r1
        have R2 := Lib.hid r2
        have R3 := Lib.hid r3
        have HO := Lib.hid (And.intro ho hbz)
        have hbb := hbz.size
        obtain ⟨va3, vc3, rfl⟩ := own_shape ho
        clear r1 r2 r3 ho hbz
        go_upto_region 9 with (at_builtin; refine wpList_plain rfl fun _ hK => wp_append_run (.tmp 34) (.tmp 37) 91 rfl rfl rfl (R1.out _) (hK _ _ ?_))
        go_upto_region 10 with (at_builtin; refine wpList_plain rfl fun _ hK => wp_append_run (.tmp 39) (.tmp 41) 91 rfl rfl rfl (R2.out _) (hK _ _ ?_))
        go_wp2_with (at_builtin; refine wpList_plain rfl fun _ hK => wp_append_run (.tmp 43) (.tmp 46) 91 rfl rfl rfl (R3.out _) (hK _ _ ?_))
        go_roundw
        case rel =>
          refine ⟨k + 1, by go_num, by omega, (HW1.out.1.trans (HBX.out.mono hsz1)).trans (HO.out.2.mono (by have := HBX.out.size; omega)), ?_⟩
          rw [HINS.out]
          exact ownsRow_weak HO.out.1 (by have := HBX.out.size; omega)
        case measure => simp [Go.RowKit.intOf]; omega
    · have hge : ¬ (k : Int) < ks.length := by omega
      obtain rfl : k = ks.length := by omega
      go_wp2_with fail
      exact bodyPost_ret (v := .slice va ks.length vc) (by simp [results, Tryz.results85, go_sem]) rfl ⟨_, rfl, HBW.out, HOWN.out⟩
end Go.Gj

/-
  spec.Sorted.
-/
namespace Go.Gj
set_option linter.unusedSimpArgs false
set_option linter.unusedVariables false
set_option linter.unnecessarySimpa false
open Go Go.RowKit Go.Proofs

/-- append of one record to a row of records of our own. -/
theorem append_rec (w : World) (base : Nat) (v : Value) (n : Nat) (xs : List Value) (hown : w.ownsRow base 26 6 v n xs) (c0 c1 c2 c3 c4 c5 : Value) (h1 : ∀ u ∈ [c0, c1, c2, c3, c4, c5], u.oneCell' = true) (hn : n ≤ 1000000) (hbase : base ≤ w.heap.size) :
    ∃ v' w', (∀ ty, (Builtin.append_ #[23, 23] ty #[v, .slice (some ⟨w.heap.size, 0, none⟩) 1 1]).run Tryz.prog (w.alloc (.cells #[c0, c1, c2, c3, c4, c5] 26)) = .ok v' w') ∧ w'.ownsRow base 26 6 v' (n + 1) (xs ++ [c0, c1, c2, c3, c4, c5]) ∧
      Below base w w' ∧ (∀ b, b < w.heap.size → v.ownBlock ≠ some b → w'.heap[b]? = w.heap[b]?) ∧ w.heap.size < w'.heap.size ∧ ∃ g cap, v' = .slice (some ⟨g, 0, none⟩) (n + 1) cap := by
  obtain ⟨i0, hi, hz0, hz1, hz2⟩ := info_parts info26
  have hb0 := below1 w (.cells #[c0, c1, c2, c3, c4, c5] 26)
  have hs0 := size_alloc w (.cells #[c0, c1, c2, c3, c4, c5] 26)
  have ho := own_below hown hb0
  have hnews := World.news_of_block (heap_alloc_new w (.cells #[c0, c1, c2, c3, c4, c5] 26))
  obtain ⟨v', w', h, h2, h3, h4⟩ := run_append_own (P := Tryz.prog) (w.alloc (.cells #[c0, c1, c2, c3, c4, c5] 26)) base 23 0 26 i0 (.agg #[.int .i64 0, .int .i64 0, .string ⟨#[]⟩, .slice none 0 0, .slice none 0 0, .slice none 0 0]) 6 104 Tryz.underlying23 hi hz0 hz1 hz2 rfl (by decide) v n xs ho ⟨w.heap.size, 0, none⟩ 1 1 [c0, c1, c2, c3, c4, c5] rfl hnews h1 (by simp only [maxLen]; omega) (by omega) (by omega)
  refine ⟨v', w', fun ty => h, h2, (hb0.mono hbase).trans (grown_below h3 (by omega) (fun k hk => (ho.lt k hk).1)), fun b hb hne => ?_, by have := h3.size; omega, ?_⟩
  · exact (h3.block b (by omega) (fun e => hne e.symm)).trans (hb0.block b hb)
  · obtain ⟨a, c, rfl⟩ := own_shape h2
    rcases h2.2 with ⟨h, h'⟩ | ⟨g, cap, cur, h, _⟩
    · omega
    · simp only [Value.slice.injEq, true_and] at h
      exact ⟨g, cap, by rw [h.1, h.2]⟩

/-- Blocks of an older set, and those made since. -/
def With (S : Nat → Prop) (n : Nat) (w : World) : Nat → Prop := fun b => S b ∨ (n ≤ b ∧ b < w.heap.size)

theorem With.lt {S : Nat → Prop} {n : Nat} {w : World} (hS : ∀ b, S b → b < n) (hn : n ≤ w.heap.size) : ∀ b, With S n w b → b < w.heap.size := fun b h => by
  rcases h with h | h
  · exact Nat.lt_of_lt_of_le (hS b h) hn
  · exact h.2

set_option maxHeartbeats 4000000 in
set_option maxRecDepth 100000 in
theorem Sorted_ok (l ks : List J) (hok : ∀ k ∈ ks, k.ok) (hlk : ks.length = l.length) (hlen : l.length ≤ lim) (w : World) (S : Nat → Prop) (hS : ∀ b, S b → b < w.heap.size) (va vb : Value) (ha : JSl w S l va) (hb : JSl w S ks vb) :
    Calls Tryz.prog 59 #[va, vb] w fun e w' => ∃ v, e = .returned v ∧ Below w.heap.size w w' ∧ JSl w' (With S w.heap.size w') (ordL l ks) v := by
  have HR := Lib.hid (ranks_ok ks hok (by omega) w S hS vb hb)
  have HOK := Lib.hid (And.intro hok (And.intro hS hlk))
  have HA := Lib.hid ha
  have HLIM := Lib.hid hlen
  obtain ⟨sa, sc, rfl, hn, _⟩ := ha.at
  obtain ⟨sa2, sc2, rfl, hn2, _⟩ := hb.at
  clear hok hS ha hb
  unfold lim at hlen
  have hlen' : (ordL l ks).length = l.length := by rw [ordL_length HOK.out.1, HOK.out.2.2]
  have hrl : (ranks ks).length = l.length := by rw [ranks_length HOK.out.1, HOK.out.2.2]
  have HL := Lib.hid (And.intro hlen' hrl)
  clear hlk hlen' hrl
  go_enter Tryz.func59, Tryz.ntmps59
  go_upto_block 0 with (go_at_call 85; refine HR.out.mono ?_; rintro e w1 ⟨vr, rfl, hb1, hown1⟩; rw [HOK.out.2.2] at hown1; obtain ⟨ra, rc, rfl⟩ := own_shape hown1; have HW1 := Lib.hid (And.intro hb1 hown1); clear hb1 hown1)
  go_wp2_with fail
  have hsz1 := HW1.out.1.size
  go_loopw [5, 11] (fun v5 v11 wr => ∃ (k : Nat) (xs : List Value), v11 = .int .i64 k ∧ k ≤ l.length ∧ Below w1.heap.size w1 wr ∧ wr.ownsRow w1.heap.size 26 6 v5 k xs ∧ Flat w S ((ordL l ks).take k) xs) (fun _ v11 _ => l.length - (Go.RowKit.intOf v11).toNat)
  case atStart => exact ⟨0, [], rfl, Nat.zero_le _, Below.refl _ _, World.ownsRow_nil _ _ _ _, rfl⟩
  case round =>
    obtain ⟨k, xs, rfl, hk, hbw, hown, hflat⟩ := hrel
    obtain ⟨va, vc, rfl⟩ := own_shape hown
    have HBW := Lib.hid hbw
    have HOWN := Lib.hid (And.intro hown hflat)
    clear hbw hown hflat
    by_cases hlt : k < l.length
    · have hlt' : (k : Int) < l.length := by omega
      obtain ⟨b, o, c, hv, hSb, hat⟩ := HA.out.row (by omega)
      simp only [Value.slice.injEq, true_and] at hv
      obtain ⟨rfl, rfl⟩ := hv
      obtain ⟨g, rfl, hgc⟩ : ∃ g, ra = some ⟨g, 0, none⟩ ∧ l.length ≤ rc := by
        rcases own_shape' HW1.out.2 with ⟨_, h, _⟩ | h
        · omega
        · exact h
      have hkr : k < (ranks ks).length := by have := HL.out.2; omega
      have hm := (((rankN_ok HOK.out.1 ks.length).2.1) ((ranks ks)[k]'hkr)).1 (List.getElem_mem _)
      have hco := (own_below HW1.out.2 HBW.out).cells (g := g) rfl k (.int .i64 ((ranks ks)[k]'hkr : Nat)) (by rw [ints_at, List.getElem?_eq_getElem hkr]; rfl)
      rw [addr_add] at hco
      have hsrt : (ordL l ks).take (k + 1) = (ordL l ks).take k ++ [l.getD ((ranks ks)[k]'hkr) .null] := by
        rw [List.take_succ_eq_append_getElem (by have := HL.out.1; omega)]
        simp [ordL]
      generalize (ranks ks)[k]'hkr = m at hm hco hsrt
      have hml : m < l.length := by have := HOK.out.2.2; omega
      have hml' : (m : Int) < l.length := by omega
      obtain ⟨c0, c1, c2, c3, c4, c5, h0, h1, h2, h3, h4, h5, hrep⟩ := hat m hml
      have hbl := HOK.out.2.1 b hSb
      have hcx : ∀ p : Addr, p.block < w.heap.size → wr.cell? p = w.cell? p := fun p hp => (HW1.out.1.trans (HBW.out.mono hsz1)).cell hp
      rw [← hcx _ hbl] at h0 h1 h2 h3 h4 h5
      obtain ⟨rk, rh, rt, a1, n1, m1, a2, n2, m2, a3, n3, m3, rfl, rfl, rfl, rfl, rfl, rfl⟩ := hrep.shape6
      obtain ⟨v', w', hrun, hown', hb', hk', hs', g', cap', rfl⟩ := append_rec wr w1.heap.size _ k xs HOWN.out.1 (.int .i64 rk) (.int .i64 rh) (.string rt) (.slice a1 n1 m1) (.slice a2 n2 m2) (.slice a3 n3 m3) (by intro u hu; simp at hu; rcases hu with rfl | rfl | rfl | rfl | rfl | rfl <;> rfl) (by omega) HBW.out.size
      rw [getD_J hml] at hsrt
      have HFL : Hid (Flat w S ((ordL l ks).take (k + 1)) (xs ++ [.int .i64 rk, .int .i64 rh, .string rt, .slice a1 n1 m1, .slice a2 n2 m2, .slice a3 n3 m3])) := Lib.hid (by rw [hsrt]; exact Flat.snoc hrep _ _ HOWN.out.2)
      have HRUN := Lib.hid hrun
      have HNEW := Lib.hid (And.intro hown' hb')
      clear hrun hown' hb' hk' hs' hrep hat hcx hsrt HOWN
      go_wp2_with (at_builtin; refine wpList_plain rfl fun _ hK => wp_append_run (.tmp 15) (.tmp 20) 23 rfl rfl rfl (HRUN.out _) (hK _ _ ?_))
      go_roundw
      case rel => exact ⟨k + 1, _, by go_num, hlt, HBW.out.trans (HNEW.out.2.mono (Nat.le_refl _)), HNEW.out.1, HFL.out⟩
      case measure => simp [Go.RowKit.intOf]; omega
    · have hge : ¬ (k : Int) < l.length := by omega
      obtain rfl : k = l.length := by omega
      go_wp2_with fail
      have hall := HW1.out.1.trans (HBW.out.mono hsz1)
      refine bodyPost_ret (v := .slice va l.length vc) (by simp [results, Tryz.results59, go_sem]) rfl ⟨_, rfl, hall, ?_⟩
      have hfl := HOWN.out.2
      have ho := HOWN.out.1
      rw [← HL.out.1, List.take_length] at hfl
      rw [← HL.out.1] at ho ⊢
      exact slice_of_own ho (hfl.keep (.of_below hall HOK.out.2.1) (fun _ h => .inl h)) (by rw [HL.out.1]; exact HLIM.out) (fun b e => .inr ⟨Nat.le_trans hsz1 (ho.lt b e).1, (ho.lt b e).2⟩)
end Go.Gj

/-
  spec.once.
-/
namespace Go.Gj
set_option linter.unusedSimpArgs false
set_option linter.unusedVariables false
set_option linter.unnecessarySimpa false
open Go Go.RowKit Go.Proofs

theorem onceN_ok (sl sk : List J) (hl : ∀ x ∈ sl, x.ok) : ∀ k, ∀ x ∈ onceN sl sk k, x.ok
  | 0, x, h => by cases h
  | k + 1, x, h => by
    have ih := onceN_ok sl sk hl k
    unfold onceN at h
    split at h
    · rcases List.mem_append.1 h with h | h
      · exact ih x h
      · simp at h; subst h; exact getD_ok hl k
    · exact ih x h

set_option maxHeartbeats 4000000 in
set_option maxRecDepth 100000 in
theorem once_ok (sl sk : List J) (hok : ∀ k ∈ sk, k.ok) (hlk : sk.length = sl.length) (hlen : sl.length ≤ lim) (w : World) (S : Nat → Prop) (hS : ∀ b, S b → b < w.heap.size) (va vb : Value) (ha : JSl w S sl va) (hb : JSl w S sk vb) :
    Calls Tryz.prog 60 #[va, vb] w fun e w' => ∃ v, e = .returned v ∧ Below w.heap.size w w' ∧ JSl w' (With S w.heap.size w') (onceN sl sk sl.length) v := by
  have HOK := Lib.hid (And.intro hok (And.intro hS hlk))
  have HA := Lib.hid (And.intro ha hb)
  have HLIM := Lib.hid hlen
  obtain ⟨sa, sc, rfl, hn, _⟩ := ha.at
  obtain ⟨sa2, sc2, rfl, hn2, _⟩ := hb.at
  clear hok hS ha hb hlk
  unfold lim at hlen
  go_enter Tryz.func60, Tryz.ntmps60
  go_wp2_with fail
  go_loopw [5, 10] (fun v5 v10 wr => ∃ (k : Nat) (xs : List Value), v10 = .int .i64 k ∧ k ≤ sl.length ∧ Below w.heap.size w wr ∧ wr.ownsRow w.heap.size 26 6 v5 (onceN sl sk k).length xs ∧ Flat w S (onceN sl sk k) xs) (fun _ v10 _ => sl.length - (Go.RowKit.intOf v10).toNat)
  case atStart => exact ⟨0, [], rfl, Nat.zero_le _, Below.refl _ _, World.ownsRow_nil _ _ _ _, rfl⟩
  case round =>
    obtain ⟨k, xs, rfl, hk, hbw, hown, hflat⟩ := hrel
    obtain ⟨va, vc, rfl⟩ := own_shape hown
    have HBW := Lib.hid hbw
    have HOWN := Lib.hid (And.intro hown hflat)
    have hol := onceN_length sl sk k
    clear hbw hown hflat
    by_cases hlt : k < sl.length
    · have hlt' : (k : Int) < sl.length := by omega
      obtain ⟨b, o, c, hv, hSb, hat⟩ := HA.out.1.row (by omega)
      simp only [Value.slice.injEq, true_and] at hv
      obtain ⟨rfl, rfl⟩ := hv
      have hskl := HOK.out.2.2
      obtain ⟨bk, ok, ck, hv, hSk, hatk⟩ := HA.out.2.row (by omega)
      simp only [Value.slice.injEq, true_and] at hv
      obtain ⟨rfl, rfl⟩ := hv
      obtain ⟨c0, c1, c2, c3, c4, c5, h0, h1, h2, h3, h4, h5, hrep⟩ := hat k hlt
      have hbl := HOK.out.2.1 b hSb
      have hbk := HOK.out.2.1 bk hSk
      have hcx : ∀ p : Addr, p.block < w.heap.size → wr.cell? p = w.cell? p := fun p hp => HBW.out.cell hp
      rw [← hcx _ hbl] at h0 h1 h2 h3 h4 h5
      have HATK := Lib.hid hatk
      obtain ⟨rk, rh, rt, a1, n1, m1, a2, n2, m2, a3, n3, m3, rfl, rfl, rfl, rfl, rfl, rfl⟩ := hrep.shape6
      have hkk : (k : Int) < sk.length := by omega
      have hsz := HBW.out.size
      have HREP := Lib.hid hrep
      have hgl : sl[k]'hlt = sl.getD k .null := (getD_J hlt).symm
      have HGL := Lib.hid hgl
      have HKL := Lib.hid hskl
      clear hat hatk hrep hcx hgl hskl
      go_upto_region 5 with fail
      have hw1 := below1 wr (.cells #[.int .i64 rk, .int .i64 rh, .string rt, .slice a1 n1 m1, .slice a2 n2 m2, .slice a3 n3 m3] 26)
      have hbox : Box (wr.alloc (.cells #[.int .i64 rk, .int .i64 rh, .string rt, .slice a1 n1 m1, .slice a2 n2 m2, .slice a3 n3 m3] 26)) wr.heap.size rk rh rt (.slice a1 n1 m1) (.slice a2 n2 m2) (.slice a3 n3 m3) := Box.new _ _ _ _ _ _ _
      have hsw := size_alloc wr (.cells #[.int .i64 rk, .int .i64 rh, .string rt, .slice a1 n1 m1, .slice a2 n2 m2, .slice a3 n3 m3] 26)
      have HW1 := Lib.hid (And.intro (HBW.out.trans (hw1.mono HBW.out.size)) (own_below HOWN.out.1 hw1))
      have HBOX := Lib.hid hbox
      generalize wr.alloc (.cells #[.int .i64 rk, .int .i64 rh, .string rt, .slice a1 n1 m1, .slice a2 n2 m2, .slice a3 n3 m3] 26) = w1 at *
      clear hbox hw1 h0 h1 h2 h3 h4 h5
      have hsz1 := HW1.out.1.size
      obtain ⟨cc, hc⟩ : ∃ c, c = decide (k = 0 ∨ cmpJ (sk.getD (k - 1) .null) (sk.getD k .null) ≠ 0) := ⟨_, rfl⟩
      have HC := Lib.hid hc
      clear hc
      go_cut [29] (fun v wx => v = .bool cc ∧ Below w1.heap.size w1 wx)
      case first =>
        by_cases hk0 : k = 0
        · subst hk0
          have hct : cc = true := by rw [HC.out]; simp
          have HCT := Lib.hid hct
          clear hct
          refine wp_region_quiet_tail 12 (by kernel_rfl) (by kernel_rfl) ?_
          simp only [List.take_succ_cons, List.take_zero, List.drop_succ_cons, List.drop_zero]
          repeat (go_big_quiet_step (fail))
          refine wpQuiet_nil ?_
          go_wp2_with fail
          go_meet
          exact ⟨by rw [HCT.out], (Below.refl _ _).drew⟩
        · obtain ⟨k', rfl⟩ : ∃ k', k = k' + 1 := ⟨k - 1, by omega⟩
          have hk1 : ((k' : Int) + 1 == 0) = false := by rw [beq_eq_false_iff_ne]; omega
          have hk2 : (k' : Int) + 1 < sk.length := by omega
          have hcd : cc = !(cmpJ (sk.getD k' .null) (sk.getD (k' + 1) .null) == 0) := by
            rw [HC.out, Bool.eq_iff_iff]
            simp
          have HCD := Lib.hid hcd
          clear hcd
          have hkk' : (k' : Int) < sk.length := by omega
          obtain ⟨d0, d1, d2, d3, d4, d5, e0, e1, e2, e3, e4, e5, hr1⟩ := HATK.out k' (by omega)
          obtain ⟨f0, f1, f2, f3, f4, f5, g0, g1, g2, g3, g4, g5, hr2⟩ := HATK.out (k' + 1) (by omega)
          have hcx : ∀ p : Addr, p.block < w.heap.size → w1.cell? p = w.cell? p := fun p hp => HW1.out.1.cell hp
          rw [← hcx _ hbk] at e0 e1 e2 e3 e4 e5 g0 g1 g2 g3 g4 g5
          have okk : ∀ i, (sk.getD i .null).ok := fun i => getD_ok HOK.out.1 i
          rw [← getD_J (by omega)] at hr1 hr2
          have HSM := Lib.hid (Same_ok _ _ w1.drew S _ _ (okk k') (okk (k' + 1)) (fun b hb => Nat.lt_of_lt_of_le (HOK.out.2.1 b hb) hsz1) (hr1.keep (.of_below HW1.out.1.drew HOK.out.2.1) (fun _ h => h)) (hr2.keep (.of_below HW1.out.1.drew HOK.out.2.1) (fun _ h => h)))
          generalize (cmpJ (sk.getD k' .null) (sk.getD (k' + 1) .null) == 0) = dd at HSM HCD
          obtain ⟨sk1, sh1, st1, x1, y1, z1, x2, y2, z2, x3, y3, z3, rfl, rfl, rfl, rfl, rfl, rfl⟩ := hr1.shape6
          obtain ⟨tk1, th1, tt1, p1, q1, s1, p2, q2, s2, p3, q3, s3, rfl, rfl, rfl, rfl, rfl, rfl⟩ := hr2.shape6
          clear hr1 hr2 okk hcx
          refine wp_region_quiet_tail 12 (by kernel_rfl) (by kernel_rfl) ?_
          simp only [List.take_succ_cons, List.take_zero, List.drop_succ_cons, List.drop_zero]
          repeat (go_big_quiet_step (fail))
          refine wpQuiet_nil ?_
          go_wp2_with (go_at_call 61; refine HSM.out.mono ?_; rintro e wx ⟨rfl, hx⟩; have HX := Lib.hid ((Below.refl _ _).drew.trans hx); clear hx)
          go_meet
          exact ⟨by rw [HCD.out], HX.out⟩
      obtain ⟨rfl, hbx⟩ := hcut
      have HBX := Lib.hid hbx
      clear hbx
      cases cc with
      | false =>
        go_wp2_with fail
        go_roundw
        case rel =>
          have hn := of_decide_eq_false HC.out.symm
          refine ⟨k + 1, xs, by go_num, hlt, HW1.out.1.trans (HBX.out.mono hsz1), ?_, ?_⟩
          · simp only [onceN]
            rw [if_neg hn]
            exact own_below HW1.out.2 HBX.out
          · simp only [onceN]
            rw [if_neg hn]
            exact HOWN.out.2
        case measure => simp [Go.RowKit.intOf]; omega
      | true =>
        obtain ⟨v', w', hrun, hown', hb', hk', hs', g', cap', rfl⟩ := append_rec wc w.heap.size _ _ xs (own_below HW1.out.2 HBX.out) (.int .i64 rk) (.int .i64 rh) (.string rt) (.slice a1 n1 m1) (.slice a2 n2 m2) (.slice a3 n3 m3) (by intro u hu; simp at hu; rcases hu with rfl | rfl | rfl | rfl | rfl | rfl <;> rfl) (by omega) (by have := HBX.out.size; omega)
        obtain ⟨x0, x1, x2, x3, x4, x5⟩ := (show Box wc _ _ _ _ _ _ _ from (HBX.out.block _ (by omega)).trans HBOX.out).c
        have HRUN := Lib.hid hrun
        have HNEW := Lib.hid (And.intro hown' hb')
        clear hrun hown' hb' hk' hs'
        go_wp2_with (at_builtin; refine wpList_plain rfl fun _ hK => wp_append_run (.tmp 30) (.tmp 32) 23 rfl rfl rfl (HRUN.out _) (hK _ _ ?_))
        go_roundw
        case rel =>
          have hn := of_decide_eq_true HC.out.symm
          refine ⟨k + 1, xs ++ [.int .i64 rk, .int .i64 rh, .string rt, .slice a1 n1 m1, .slice a2 n2 m2, .slice a3 n3 m3], by go_num, hlt, (HW1.out.1.trans (HBX.out.mono hsz1)).trans HNEW.out.2, ?_, ?_⟩
          · simp only [onceN]
            rw [if_pos hn, List.length_append, List.length_singleton]
            exact HNEW.out.1
          · simp only [onceN]
            rw [if_pos hn, ← HGL.out]
            exact Flat.snoc HREP.out _ _ HOWN.out.2
        case measure => simp [Go.RowKit.intOf]; omega
    · have hge : ¬ (k : Int) < sl.length := by omega
      obtain rfl : k = sl.length := by omega
      go_wp2_with fail
      have hb' := HBW.out
      refine bodyPost_ret (v := .slice va (onceN sl sk sl.length).length vc) (by simp [results, Tryz.results60, go_sem]) rfl ⟨_, rfl, hb', ?_⟩
      have hlim := HLIM.out
      exact slice_of_own HOWN.out.1 (HOWN.out.2.keep (.of_below hb' HOK.out.2.1) (fun _ h => .inl h)) (by omega) (fun b e => .inr (HOWN.out.1.lt b e))
end Go.Gj
