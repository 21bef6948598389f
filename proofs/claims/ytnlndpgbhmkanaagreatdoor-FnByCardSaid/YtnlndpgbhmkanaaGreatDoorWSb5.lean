/-
  gojq.uniqueBy.
-/
import Derived.Test.YtnlndpgbhmkanaaGreatDoorWSb1
import Derived.Test.YtnlndpgbhmkanaaGreatDoorRegT
import Derived.Laws.AppendOwn
namespace Go.Gj
set_option linter.unusedSimpArgs false
set_option linter.unusedVariables false
set_option linter.unnecessarySimpa false
open Go Go.RowKit Go.Proofs

/-- The first of each run of equal keys, of the first k. -/
def onceN (sl sk : List J) : Nat → List J
  | 0 => []
  | k + 1 => if k = 0 ∨ cmpJ (sk.getD (k - 1) .null) (sk.getD k .null) ≠ 0 then onceN sl sk k ++ [sl.getD k .null] else onceN sl sk k

/-- Values stand for these, in an older world. -/
def RepL (w0 : World) (S : Nat → Prop) (l : List J) (xs : List Value) : Prop := xs.length = l.length ∧ ∀ j (hj : j < l.length) (hx : j < xs.length), ARep w0 S l[j] xs[j]

theorem RepL.nil (w0 : World) (S : Nat → Prop) : RepL w0 S [] [] := ⟨rfl, fun j hj => by cases hj⟩
theorem RepL.snoc {w0 : World} {S : Nat → Prop} {l : List J} {xs : List Value} (h : RepL w0 S l xs) {x : J} {g : Value} (hg : ARep w0 S x g) : RepL w0 S (l ++ [x]) (xs ++ [g]) := by
  refine ⟨by simp [h.1], fun j hj hx => ?_⟩
  by_cases e : j < l.length
  · rw [List.getElem_append_left e, List.getElem_append_left (by rw [h.1]; exact e)]
    exact h.2 j e _
  · have hj' : j = l.length := by simp at hj; omega
    subst hj'
    have hl := h.1
    simp only [List.getElem_append_right (Nat.le_refl _), Nat.sub_self, List.getElem_cons_zero]
    rw [List.getElem_append_right (by omega)]
    simp only [hl, Nat.sub_self, List.getElem_cons_zero]
    exact hg

theorem wp_append_run {P : Program} {w : World} {o : Oper} {a : Act} {K : Act → World → Prop} {Q : Exit → Act → World → Prop} (s x : Operand) (t : TypeId)
    (ho : o.op = .call { callee := .builtin .append, args := #[s, x], argTypes := #[t, t] }) {v x' v' : Value} {w' : World} (hs : a.eval s = v) (hx : a.eval x = x') (hr : (Builtin.append_ #[t, t] o.type #[v, x']).run P w = .ok v' w')
    (h : K (a.put o.dst v') w') : o.wp P a w K Q := by
  unfold Oper.wp execOp
  simp only [ho, resolve, invoke, builtin, Sem.run_bind, Sem.run_pure, Result.andThen_ok, List.map_toArray, List.map_cons, List.map_nil, hs, hx, hr]
  exact h

theorem wp_append_if {P : Program} {w : World} {o : Oper} {a : Act} {K : Act → World → Prop} {Q : Exit → Act → World → Prop} {ys : Nat → Option Bool} {R : Prop} (s x : Operand) (t : TypeId)
    (hw : Region.wanted o ys = true) (ho : o.op = .call { callee := .builtin .append, args := #[s, x], argTypes := #[t, t] }) {v x' v' : Value} {w' : World} (hs : a.eval s = v) (hx : a.eval x = x') (hr : (Builtin.append_ #[t, t] o.type #[v, x']).run P w = .ok v' w')
    (h : K (a.put o.dst v') w') : if Region.wanted o ys = true then o.wp P a w K Q else R := by
  rw [if_pos hw]
  exact wp_append_run s x t ho hs hx hr h

theorem info20s : ∃ i, Tryz.prog.info? 20 = some i ∧ i.zero = some .nilIface ∧ i.size = 1 ∧ i.bytes = 16 := by
  obtain ⟨i0, hi, hz0, hz1, hz2⟩ := info_parts info20
  exact ⟨i0, hi, hz0, hz1, hz2⟩

/-- append of one value to a row of any of our own. -/
theorem append_one (w : World) (base : Nat) (v : Value) (n : Nat) (xs : List Value) (hown : w.ownsRow base 20 1 v n xs) (B : Nat) (g : Value) (c : Nat) (hB : w.cell? ⟨B, 0, none⟩ = some g) (h1 : g.oneCell' = true) (hn : n ≤ 1000000) (hbase : base ≤ w.heap.size) :
    ∃ v' w', (∀ ty, (Builtin.append_ #[80, 80] ty #[v, .slice (some ⟨B, 0, none⟩) 1 c]).run Tryz.prog w = .ok v' w') ∧ w'.ownsRow base 20 1 v' (n + 1) (xs ++ [g]) ∧ w.grownBy w' v.ownBlock ∧ v' ≠ .slice none 0 0 := by
  obtain ⟨i, hi, hz, hs, hb⟩ := info20s
  obtain ⟨v', w', h, h2, h3, h4⟩ := run_append_own (P := Tryz.prog) w base 80 0 20 i .nilIface 1 16 Tryz.underlying80 hi hz hs hb rfl (by decide) v n xs hown ⟨B, 0, none⟩ 1 c [g] rfl (fun j u hj => by
    have : j = 0 := by
      have := (List.getElem?_eq_some_iff.1 hj).1
      simp at this; omega
    subst this
    simp at hj
    subst hj
    simpa [Addr.add] using hB) (by simpa using h1) (by simp only [maxLen]; omega) (by omega) hbase
  refine ⟨v', w', fun ty => ?_, h2, h3, fun e => by have := (h4.1 e).2; omega⟩
  exact h

theorem ownsRow_rep {w0 w1 : World} {S : Nat → Prop} {base : Nat} {v : Value} {n : Nat} {xs : List Value} {l : List J} (hown : w1.ownsRow base 20 1 v n xs) (hne : v ≠ .slice none 0 0) (hr : RepL w0 S l xs) (hb : Below w0.heap.size w0 w1) (hS : ∀ b, S b → b < w0.heap.size) : ARep w1 (allB w1) (.arr l) (.iface 80 v) := by
  obtain ⟨hlen, ⟨h, _⟩ | ⟨g, cap, cur, rfl, hbg, hg, hnc, hcm, hcs, htake⟩⟩ := hown
  · exact absurd h hne
  · have hn : n = l.length := by have := hr.1; omega
    subst hn
    have hlt : g < w1.heap.size := (Array.getElem?_eq_some_iff.1 hg).1
    refine ⟨g, 0, cap, rfl, ⟨hnc, by unfold capMost; simp only [maxLen] at hcm; omega⟩, hlt, ACells.of l 0 fun j hj => ?_⟩
    have hjx : j < xs.length := by rw [hr.1]; exact hj
    refine ⟨xs[j], ?_, (hr.2 j hj hjx).keep (.of_below hb hS) (lt_below hb hS)⟩
    rw [Nat.zero_add]
    simp only [World.cell?, hg]
    have h1 : cur.toList[j]? = some xs[j] := by
      have h2 : (cur.toList.take (l.length * 1))[j]? = some xs[j] := by rw [htake]; exact List.getElem?_eq_getElem hjx
      rw [List.getElem?_take] at h2
      split at h2
      · exact h2
      · cases h2
    simpa using h1

theorem grown_below {w w' : World} {row : Option Nat} {B : Nat} (h : w.grownBy w' row) (hB : B ≤ w.heap.size) (hr : ∀ k, row = some k → B ≤ k) : Below B w w' :=
  ⟨h.os, h.tape, h.output, h.size, fun k hk => h.block k (by omega) fun e => by have := hr k e.symm; omega⟩

theorem ownBlock_base {w : World} {base : Nat} {v : Value} {n : Nat} {xs : List Value} (h : w.ownsRow base 20 1 v n xs) : ∀ k, v.ownBlock = some k → base ≤ k := fun k hk => by
  obtain ⟨_, ⟨rfl, _⟩ | ⟨g, cap, cur, rfl, hbg, _⟩⟩ := h
  · cases hk
  · obtain rfl : g = k := by simpa [Value.ownBlock] using hk
    exact hbg

theorem ownsRow_below {w w' : World} {base : Nat} {v : Value} {n : Nat} {xs : List Value} (h : w.ownsRow base 20 1 v n xs) (hb : Below w.heap.size w w') : w'.ownsRow base 20 1 v n xs := by
  obtain ⟨h1, ⟨rfl, h2⟩ | ⟨g, cap, cur, rfl, hbg, hg, h3⟩⟩ := h
  · exact ⟨h1, .inl ⟨rfl, h2⟩⟩
  · exact ⟨h1, .inr ⟨g, cap, cur, rfl, hbg, (hb.block g (Array.getElem?_eq_some_iff.1 hg).1).trans hg, h3⟩⟩

theorem onceN_length (sl sk : List J) : ∀ k, (onceN sl sk k).length ≤ k
  | 0 => Nat.le_refl _
  | k + 1 => by
    have := onceN_length sl sk k
    unfold onceN
    split
    · simp; omega
    · omega
theorem onceN_mem {sl : List J} (sk : List J) (h : ∀ x ∈ sl, x.ok) : ∀ k, ∀ x ∈ onceN sl sk k, x.ok
  | 0, x, hx => by cases hx
  | k + 1, x, hx => by
    unfold onceN at hx
    split at hx
    · rcases List.mem_append.1 hx with hx | hx
      · exact onceN_mem sk h k x hx
      · simp at hx; subst hx; exact getD_ok h k
    · exact onceN_mem sk h k x hx

set_option maxHeartbeats 1000000 in
set_option maxRecDepth 100000 in
theorem uniqueBy_ok (name : ByteArray) (l ks : List J) (hokl : ∀ x ∈ l, x.ok) (hlk : ks.length = l.length) (hlen : l.length ≤ lim) (hok : ∀ k ∈ ks, k.ok) (w : World) (S : Nat → Prop) (hS : ∀ b, S b → b < w.heap.size) (gl gg : Value) (h1 : ARep w S (.arr l) gl) (h2 : ARep w S (.arr ks) gg) :
    Calls Tryz.prog 110 #[.string name, gl, gg] w (AnyGives w (some (.arr (onceN (ordL l ks) (ordL ks ks) l.length)))) := by
  have HSI := Lib.hid (sortItems_ok name l ks hlk hlen hok w S hS gl gg h1 h2)
  have HS := Lib.hid (And.intro hS (And.intro hlk hok))
  have HOL := Lib.hid hokl
  clear h1 h2 hS hok hokl
  unfold lim at hlen
  go_enter Tryz.func110, Tryz.ntmps110
  go_upto_region 4 with (go_at_call 108; refine HSI.out.mono ?_; rintro e w1 ⟨rfl, hb1, d, hrow, hsh, hso⟩; have HR := Lib.hid (hrow.is HS.out.2.1 HS.out.2.2 hsh hso); have HB1 := Lib.hid hb1; have hR : w.heap.size < w1.heap.size := (by obtain ⟨_, _, _, _, _, h⟩ := hrow; omega); clear hb1 hrow hsh hso)
  go_wp2_with fail
  have HI0 : Hid (Below w1.heap.size w1 (w1.alloc (.cells #[] 20)) ∧ (w1.alloc (.cells #[] 20)).ownsRow w1.heap.size 20 1 (.slice (some ⟨w1.heap.size, 0, none⟩) 0 0) 0 []) := Lib.hid ⟨below1 _ _, rfl, .inr ⟨w1.heap.size, 0, #[], rfl, Nat.le_refl _, heap_alloc_new _ _, Nat.le_refl _, by simp only [maxLen]; omega, rfl, rfl⟩⟩
  generalize w1.alloc (.cells #[] 20) = w2 at *
  go_loopw [9, 10, 26] (fun v9 v10 v26 wr => ∃ (k : Nat) (xs : List Value), v26 = .int .i64 k ∧ k ≤ l.length ∧ Below w1.heap.size w1 wr ∧ wr.ownsRow w1.heap.size 20 1 v9 xs.length xs ∧ RepL w S (onceN (ordL l ks) (ordL ks ks) k) xs ∧ v9 ≠ .slice none 0 0 ∧ (0 < k → ARep w S ((ordL ks ks).getD (k - 1) .null) v10)) (fun _ _ v26 _ => l.length - (Go.RowKit.intOf v26).toNat)
  case atStart => exact ⟨0, [], rfl, Nat.zero_le _, HI0.out.1, HI0.out.2, .nil _ _, by simp, fun h => absurd h (Nat.lt_irrefl _)⟩
  case round =>
    obtain ⟨k, xs, rfl, hk, hbw, hown, hrep, hne, hlast⟩ := hrel
    obtain ⟨gb, cap, rfl⟩ : ∃ gb cap, u9 = .slice (some ⟨gb, 0, none⟩) xs.length cap := by
      obtain ⟨_, ⟨h, _⟩ | ⟨g, c, _, h, _⟩⟩ := hown
      · exact absurd h hne
      · exact ⟨g, c, h⟩
    by_cases hlt : k < l.length
    · have hik : (k : Int) < l.length := by omega
      obtain ⟨p, gv, gk, hp1, hp2, c1, c2, c3, r1, r2⟩ := HR.out.at_ k hlt
      rw [← hbw.cell hR] at c1
      have hxs : xs.length ≤ k := by rw [hrep.1]; exact onceN_length _ _ _
      have hgl : (ordL l ks)[k]'(by rw [HR.out.len]; exact hlt) = (ordL l ks).getD k .null := (getD_J (by rw [HR.out.len]; exact hlt)).symm
      have hgk : (ordL ks ks)[k]'(by rw [HR.out.lenk]; exact hlt) = (ordL ks ks).getD k .null := (getD_J (by rw [HR.out.lenk]; exact hlt)).symm
      rw [hgl] at r1
      rw [hgk] at r2
      have okk : ∀ i, ((ordL ks ks).getD i .null).ok := fun i => getD_ok (ordL_ok HS.out.2.2) i
      have HCMP := Lib.hid (fun (h0 : 0 < k) (wx : World) (hx : Below w1.heap.size w1 wx) => Compare_ok _ _ (okk (k - 1)) (okk k) wx S u10 gk (fun b hb => Nat.lt_of_lt_of_le (Nat.lt_of_lt_of_le (HS.out.1 b hb) (HB1.out.size)) hx.size) ((hlast h0).keep (.of_below (HB1.out.trans (hx.mono HB1.out.size)) HS.out.1) (fun _ h => h)) (r2.keep (.of_below (HB1.out.trans (hx.mono HB1.out.size)) HS.out.1) (fun _ h => h)))
      have HP : Hid (∀ wx, Below w1.heap.size w1 wx → wx.cell? ⟨p, 0, none⟩ = some gv ∧ wx.cell? ⟨p, 1, none⟩ = some gk) := Lib.hid fun wx hx => ⟨(hx.cell hp2).trans c2, (hx.cell hp2).trans c3⟩
      have HST := Lib.hid (And.intro hbw (And.intro hown (And.intro hrep (And.intro hne hlast))))
      have hcell := HP.out _ hbw
      obtain ⟨cc1, cc2⟩ := hcell
      have HC2 := Lib.hid (And.intro c2 c3)
      have HREP := Lib.hid (And.intro r1 r2)
      clear hbw hown hrep hne hlast r1 r2 hgl hgk okk c2 c3
      obtain ⟨c, hc⟩ : ∃ c, c = decide (k = 0 ∨ cmpJ ((ordL ks ks).getD (k - 1) .null) ((ordL ks ks).getD k .null) ≠ 0) := ⟨_, rfl⟩
      have HC := Lib.hid hc
      clear hc
      go_upto_region 9 with fail
      go_cut [41] (fun v wx => v = .bool c ∧ Below wr.heap.size wr wx)
      case first =>
        by_cases hk0 : k = 0
        · subst hk0
          have hct : c = true := by rw [HC.out]; simp
          have HCT := Lib.hid hct
          clear hct
          go_wp2_with fail
          go_meet
          exact ⟨by rw [HCT.out], Below.refl _ _⟩
        · have hk1 : ((k : Int) == 0) = false := by rw [beq_eq_false_iff_ne]; omega
          have hcd : c = (cmpJ ((ordL ks ks).getD (k - 1) .null) ((ordL ks ks).getD k .null) != 0) := by
            rw [HC.out, Bool.eq_iff_iff]
            simp [hk0]
          have HCD := Lib.hid hcd
          clear hcd
          have HCM := Lib.hid (HCMP.out (by omega) wr HST.out.1)
          generalize cmpJ ((ordL ks ks).getD (k - 1) .null) ((ordL ks ks).getD k .null) = dd at HCM HCD
          go_wp2_with (go_at_call 109; refine HCM.out.mono ?_; rintro e wx ⟨rfl, hx⟩; have HX := Lib.hid hx; clear hx)
          go_meet
          exact ⟨by rw [HCD.out], HX.out⟩
      obtain ⟨rfl, hbx⟩ := hcut
      have HBX := Lib.hid hbx
      have HWX := Lib.hid (HST.out.1.trans (hbx.mono HST.out.1.size))
      clear hbx
      cases c with
      | false =>
        go_wp2_with fail
        go_roundw
        case rel =>
          have hn := of_decide_eq_false HC.out.symm
          obtain ⟨g1, g2, g3, g4, g5⟩ := HST.out
          have hk0 : k ≠ 0 := fun e => hn (.inl e)
          have hz : cmpJ ((ordL ks ks).getD (k - 1) .null) ((ordL ks ks).getD k .null) = 0 := by
            refine Classical.byContradiction fun e => hn (.inr e)
          refine ⟨k + 1, xs, by go_num, hlt, HWX.out, ownsRow_below g2 HBX.out, ?_, g4, fun _ => ?_⟩
          · simp only [onceN]
            rw [if_neg hn]
            exact g3
          · have heq := cmpJ_zero _ _ (getD_ok (ordL_ok HS.out.2.2) (k - 1)) (getD_ok (ordL_ok HS.out.2.2) k) hz
            rw [Nat.add_sub_cancel, ← heq]
            exact g5 (by omega)
        case measure => simp [Go.RowKit.intOf]; omega
      | true =>
        have hshape := HREP.out.1.shape
        have hcx := HP.out _ HWX.out
        rcases hshape with rfl | ⟨tg, vg, rfl⟩
        · obtain ⟨cx1, cx2⟩ := hcx
          have HQ0 := Lib.hid HWX.out.drew
          have hal := (below1 wc.drew (.cells #[.nilIface] 20))
          have hown2 := ownsRow_below (ownsRow_below HST.out.2.1 HBX.out) ((Below.refl wc.heap.size wc).drew.trans hal)
          have hnew : (wc.drew.alloc (.cells #[.nilIface] 20)).cell? ⟨wc.heap.size, 0, none⟩ = some .nilIface := by
            have h := heap_alloc_new wc.drew (.cells #[.nilIface] 20)
            unfold World.cell?
            show (match (wc.drew.alloc (.cells #[.nilIface] 20)).heap[wc.drew.heap.size]? with | some (.cells c elem frozen) => c[0]? | x => none) = _
            rw [h]
            rfl
          obtain ⟨v3, w3, happ, hown3, hgr3, hne3⟩ := append_one _ w1.heap.size _ xs.length xs hown2 wc.heap.size .nilIface 1 hnew rfl (by omega) (Nat.le_trans HWX.out.size hal.size)
          have HQ1 := Lib.hid (HWX.out.trans (((Below.refl wc.heap.size wc).drew.trans hal).mono HWX.out.size))
          have HQ2 := Lib.hid (HQ1.out.trans (grown_below hgr3 HQ1.out.size (ownBlock_base hown2)))
          have HO3 := Lib.hid (And.intro hown3 hne3)
          have HAPP := Lib.hid happ
          clear hown2 hnew hown3 hgr3 hne3 happ
          go_upto_region 10 with fail
          refine wp_region_S (fun i => decide (12 ≤ i)) (fun w4 => w4.cell? ⟨p, 0, none⟩ = some .nilIface ∧ w4.cell? ⟨p, 1, none⟩ = some gk) (fun _ => True) (by kernel_rfl) ?_
          refine wpAnyS_takeU 0 ⟨some 42, .move (.tmp 9), 80, _, _, none⟩ (v := ?_) rfl (by kernel_rfl) (by kernel_rfl) (by kernel_rfl) (by kernel_rfl) (by kernel_rfl) (fun _ _ _ h => h) (Or.inl ⟨by rfl, ?_⟩) ⟨trivial, HP.out _ HQ0.out⟩ ?_
          rotate_left
          · (intro x hx; clear hx; go_simp; try with_reducible rfl)
          try simp only [Act.put, List.setIfInBounds_toArray, List.set_cons_zero, List.set_cons_succ]
          refine wpAnyS_takeU 1 ⟨some 43, .move (.tmp 12), 136, _, _, none⟩ (v := ?_) rfl (by kernel_rfl) (by kernel_rfl) (by kernel_rfl) (by kernel_rfl) (by kernel_rfl) (fun _ _ _ h => h) (Or.inl ⟨by rfl, ?_⟩) ⟨trivial, HP.out _ HQ0.out⟩ ?_
          rotate_left
          · (intro x hx; clear hx; go_simp; try with_reducible rfl)
          try simp only [Act.put, List.setIfInBounds_toArray, List.set_cons_zero, List.set_cons_succ]
          refine wpAnyS_takeU 2 ⟨some 44, .nilCheck (.tmp 43), _, _, _, none⟩ (v := ?_) rfl (by kernel_rfl) (by kernel_rfl) (by kernel_rfl) (by kernel_rfl) (by kernel_rfl) (fun _ _ _ h => h) (Or.inl ⟨by rfl, ?_⟩) ⟨trivial, HP.out _ HQ0.out⟩ ?_
          rotate_left
          · (intro x hx; clear hx; go_simp; try with_reducible rfl)
          try simp only [Act.put, List.setIfInBounds_toArray, List.set_cons_zero, List.set_cons_succ]
          refine wpAnyS_takeU 3 ⟨some 45, .fieldAddr 139 (.tmp 44) 0, _, _, _, none⟩ (v := ?_) rfl (by kernel_rfl) (by kernel_rfl) (by kernel_rfl) (by kernel_rfl) (by kernel_rfl) (fun _ _ _ h => h) (Or.inl ⟨by rfl, ?_⟩) ⟨trivial, HP.out _ HQ0.out⟩ ?_
          rotate_left
          · (intro x hx; clear hx; go_simp; try with_reducible rfl)
          try simp only [Act.put, List.setIfInBounds_toArray, List.set_cons_zero, List.set_cons_succ]
          refine wpAnyS_takeU 4 ⟨some 46, .load 20 (.tmp 45), 20, _, _, none⟩ (v := ?_) rfl (by kernel_rfl) (by kernel_rfl) (by kernel_rfl) (by kernel_rfl) (by kernel_rfl) (fun _ _ _ h => h) (Or.inl ⟨by rfl, ?_⟩) ⟨trivial, HP.out _ HQ0.out⟩ ?_
          rotate_left
          · (intro x hx; obtain ⟨-, ⟨s1, s2⟩⟩ := hx; go_simp; try with_reducible rfl)
          try simp only [Act.put, List.setIfInBounds_toArray, List.set_cons_zero, List.set_cons_succ]
          refine wpAnyS_takeU 7 ⟨some 49, .move (.tmp 12), 136, _, _, none⟩ (v := ?_) rfl (by kernel_rfl) (by kernel_rfl) (by kernel_rfl) (by kernel_rfl) (by kernel_rfl) (fun _ _ _ h => h) (Or.inl ⟨by rfl, ?_⟩) ⟨trivial, HP.out _ HQ0.out⟩ ?_
          rotate_left
          · (intro x hx; clear hx; go_simp; try with_reducible rfl)
          try simp only [Act.put, List.setIfInBounds_toArray, List.set_cons_zero, List.set_cons_succ]
          refine wpAnyS_takeU 8 ⟨some 50, .nilCheck (.tmp 49), _, _, _, none⟩ (v := ?_) rfl (by kernel_rfl) (by kernel_rfl) (by kernel_rfl) (by kernel_rfl) (by kernel_rfl) (fun _ _ _ h => h) (Or.inl ⟨by rfl, ?_⟩) ⟨trivial, HP.out _ HQ0.out⟩ ?_
          rotate_left
          · (intro x hx; clear hx; go_simp; try with_reducible rfl)
          try simp only [Act.put, List.setIfInBounds_toArray, List.set_cons_zero, List.set_cons_succ]
          refine wpAnyS_takeU 9 ⟨some 51, .fieldAddr 139 (.tmp 50) 1, _, _, _, none⟩ (v := ?_) rfl (by kernel_rfl) (by kernel_rfl) (by kernel_rfl) (by kernel_rfl) (by kernel_rfl) (fun _ _ _ h => h) (Or.inl ⟨by rfl, ?_⟩) ⟨trivial, HP.out _ HQ0.out⟩ ?_
          rotate_left
          · (intro x hx; clear hx; go_simp; try with_reducible rfl)
          try simp only [Act.put, List.setIfInBounds_toArray, List.set_cons_zero, List.set_cons_succ]
          refine wpAnyS_takeU 10 ⟨some 52, .load 20 (.tmp 51), 20, _, _, none⟩ (v := ?_) rfl (by kernel_rfl) (by kernel_rfl) (by kernel_rfl) (by kernel_rfl) (by kernel_rfl) (fun _ _ _ h => h) (Or.inl ⟨by rfl, ?_⟩) ⟨trivial, HP.out _ HQ0.out⟩ ?_
          rotate_left
          · (intro x hx; obtain ⟨-, ⟨s1, s2⟩⟩ := hx; go_simp; try with_reducible rfl)
          try simp only [Act.put, List.setIfInBounds_toArray, List.set_cons_zero, List.set_cons_succ]
          refine wpAnyS_ready [5] (by kernel_rfl) (by simp) ?_
          refine AllReadyS.cons ⟨some 47, .buildSlice 80 1 #[(0, .tmp 46)], _, _, _, none⟩ rfl (fun K hK => ?_) AllReadyS.nil
          go_simp
          refine hK _ _ trivial (fun _ _ => HP.out _ HQ1.out) ?_
          clear hK K
          try simp only [Act.put, List.setIfInBounds_toArray, List.set_cons_zero, List.set_cons_succ]
          refine wpAnyS_ready [6] (by kernel_rfl) (by simp) ?_
          refine AllReadyS.cons ⟨some 48, .call { callee := .builtin .append, args := #[.tmp 42, .tmp 47], argTypes := #[80, 80] }, 80, _, _, none⟩ rfl (fun K hK => ?_) AllReadyS.nil
          refine wp_append_if (.tmp 42) (.tmp 47) 80 (by rfl) rfl rfl rfl (HAPP.out _) ?_
          refine hK _ _ trivial (fun _ _ => HP.out _ HQ2.out) ?_
          clear hK K
          try simp only [Act.put, List.setIfInBounds_toArray, List.set_cons_zero, List.set_cons_succ]
          refine wpAnyS_ready [11] (by kernel_rfl) (by simp) ?_
          refine AllReadyS.cons ⟨some 9, .assign (.tmp 48), 80, _, _, none⟩ rfl (fun K hK => ?_) AllReadyS.nil
          go_simp
          refine hK _ _ trivial (fun _ _ => HP.out _ HQ2.out) ?_
          clear hK K
          try simp only [Act.put, List.setIfInBounds_toArray, List.set_cons_zero, List.set_cons_succ]
          refine wpAnyS_rest 12 (fun _ => trivial) rfl (by kernel_rfl) (by kernel_rfl) ?_
          simp only [List.drop_succ_cons, List.drop_zero]
          go_wp2_with fail
          go_roundw
          case rel =>
            have hn := of_decide_eq_true HC.out.symm
            obtain ⟨g1, g2, g3, g4, g5⟩ := HST.out
            refine ⟨k + 1, xs ++ [.nilIface], by go_num, hlt, HQ2.out, by rw [List.length_append, List.length_singleton]; exact HO3.out.1, ?_, HO3.out.2, fun _ => by rw [Nat.add_sub_cancel]; exact HREP.out.2⟩
            simp only [onceN]
            rw [if_pos hn]
            exact g3.snoc HREP.out.1
          case measure => simp [Go.RowKit.intOf]; omega
        · obtain ⟨cx1, cx2⟩ := hcx
          have HQ0 := Lib.hid HWX.out.drew
          have hal := (below1 wc.drew (.cells #[(.iface tg vg)] 20))
          have hown2 := ownsRow_below (ownsRow_below HST.out.2.1 HBX.out) ((Below.refl wc.heap.size wc).drew.trans hal)
          have hnew : (wc.drew.alloc (.cells #[(.iface tg vg)] 20)).cell? ⟨wc.heap.size, 0, none⟩ = some (.iface tg vg) := by
            have h := heap_alloc_new wc.drew (.cells #[(.iface tg vg)] 20)
            unfold World.cell?
            show (match (wc.drew.alloc (.cells #[(.iface tg vg)] 20)).heap[wc.drew.heap.size]? with | some (.cells c elem frozen) => c[0]? | x => none) = _
            rw [h]
            rfl
          obtain ⟨v3, w3, happ, hown3, hgr3, hne3⟩ := append_one _ w1.heap.size _ xs.length xs hown2 wc.heap.size (.iface tg vg) 1 hnew rfl (by omega) (Nat.le_trans HWX.out.size hal.size)
          have HQ1 := Lib.hid (HWX.out.trans (((Below.refl wc.heap.size wc).drew.trans hal).mono HWX.out.size))
          have HQ2 := Lib.hid (HQ1.out.trans (grown_below hgr3 HQ1.out.size (ownBlock_base hown2)))
          have HO3 := Lib.hid (And.intro hown3 hne3)
          have HAPP := Lib.hid happ
          clear hown2 hnew hown3 hgr3 hne3 happ
          go_upto_region 10 with fail
          refine wp_region_S (fun i => decide (12 ≤ i)) (fun w4 => w4.cell? ⟨p, 0, none⟩ = some (.iface tg vg) ∧ w4.cell? ⟨p, 1, none⟩ = some gk) (fun _ => True) (by kernel_rfl) ?_
          refine wpAnyS_takeU 0 ⟨some 42, .move (.tmp 9), 80, _, _, none⟩ (v := ?_) rfl (by kernel_rfl) (by kernel_rfl) (by kernel_rfl) (by kernel_rfl) (by kernel_rfl) (fun _ _ _ h => h) (Or.inl ⟨by rfl, ?_⟩) ⟨trivial, HP.out _ HQ0.out⟩ ?_
          rotate_left
          · (intro x hx; clear hx; go_simp; try with_reducible rfl)
          try simp only [Act.put, List.setIfInBounds_toArray, List.set_cons_zero, List.set_cons_succ]
          refine wpAnyS_takeU 1 ⟨some 43, .move (.tmp 12), 136, _, _, none⟩ (v := ?_) rfl (by kernel_rfl) (by kernel_rfl) (by kernel_rfl) (by kernel_rfl) (by kernel_rfl) (fun _ _ _ h => h) (Or.inl ⟨by rfl, ?_⟩) ⟨trivial, HP.out _ HQ0.out⟩ ?_
          rotate_left
          · (intro x hx; clear hx; go_simp; try with_reducible rfl)
          try simp only [Act.put, List.setIfInBounds_toArray, List.set_cons_zero, List.set_cons_succ]
          refine wpAnyS_takeU 2 ⟨some 44, .nilCheck (.tmp 43), _, _, _, none⟩ (v := ?_) rfl (by kernel_rfl) (by kernel_rfl) (by kernel_rfl) (by kernel_rfl) (by kernel_rfl) (fun _ _ _ h => h) (Or.inl ⟨by rfl, ?_⟩) ⟨trivial, HP.out _ HQ0.out⟩ ?_
          rotate_left
          · (intro x hx; clear hx; go_simp; try with_reducible rfl)
          try simp only [Act.put, List.setIfInBounds_toArray, List.set_cons_zero, List.set_cons_succ]
          refine wpAnyS_takeU 3 ⟨some 45, .fieldAddr 139 (.tmp 44) 0, _, _, _, none⟩ (v := ?_) rfl (by kernel_rfl) (by kernel_rfl) (by kernel_rfl) (by kernel_rfl) (by kernel_rfl) (fun _ _ _ h => h) (Or.inl ⟨by rfl, ?_⟩) ⟨trivial, HP.out _ HQ0.out⟩ ?_
          rotate_left
          · (intro x hx; clear hx; go_simp; try with_reducible rfl)
          try simp only [Act.put, List.setIfInBounds_toArray, List.set_cons_zero, List.set_cons_succ]
          refine wpAnyS_takeU 4 ⟨some 46, .load 20 (.tmp 45), 20, _, _, none⟩ (v := ?_) rfl (by kernel_rfl) (by kernel_rfl) (by kernel_rfl) (by kernel_rfl) (by kernel_rfl) (fun _ _ _ h => h) (Or.inl ⟨by rfl, ?_⟩) ⟨trivial, HP.out _ HQ0.out⟩ ?_
          rotate_left
          · (intro x hx; obtain ⟨-, ⟨s1, s2⟩⟩ := hx; go_simp; try with_reducible rfl)
          try simp only [Act.put, List.setIfInBounds_toArray, List.set_cons_zero, List.set_cons_succ]
          refine wpAnyS_takeU 7 ⟨some 49, .move (.tmp 12), 136, _, _, none⟩ (v := ?_) rfl (by kernel_rfl) (by kernel_rfl) (by kernel_rfl) (by kernel_rfl) (by kernel_rfl) (fun _ _ _ h => h) (Or.inl ⟨by rfl, ?_⟩) ⟨trivial, HP.out _ HQ0.out⟩ ?_
          rotate_left
          · (intro x hx; clear hx; go_simp; try with_reducible rfl)
          try simp only [Act.put, List.setIfInBounds_toArray, List.set_cons_zero, List.set_cons_succ]
          refine wpAnyS_takeU 8 ⟨some 50, .nilCheck (.tmp 49), _, _, _, none⟩ (v := ?_) rfl (by kernel_rfl) (by kernel_rfl) (by kernel_rfl) (by kernel_rfl) (by kernel_rfl) (fun _ _ _ h => h) (Or.inl ⟨by rfl, ?_⟩) ⟨trivial, HP.out _ HQ0.out⟩ ?_
          rotate_left
          · (intro x hx; clear hx; go_simp; try with_reducible rfl)
          try simp only [Act.put, List.setIfInBounds_toArray, List.set_cons_zero, List.set_cons_succ]
          refine wpAnyS_takeU 9 ⟨some 51, .fieldAddr 139 (.tmp 50) 1, _, _, _, none⟩ (v := ?_) rfl (by kernel_rfl) (by kernel_rfl) (by kernel_rfl) (by kernel_rfl) (by kernel_rfl) (fun _ _ _ h => h) (Or.inl ⟨by rfl, ?_⟩) ⟨trivial, HP.out _ HQ0.out⟩ ?_
          rotate_left
          · (intro x hx; clear hx; go_simp; try with_reducible rfl)
          try simp only [Act.put, List.setIfInBounds_toArray, List.set_cons_zero, List.set_cons_succ]
          refine wpAnyS_takeU 10 ⟨some 52, .load 20 (.tmp 51), 20, _, _, none⟩ (v := ?_) rfl (by kernel_rfl) (by kernel_rfl) (by kernel_rfl) (by kernel_rfl) (by kernel_rfl) (fun _ _ _ h => h) (Or.inl ⟨by rfl, ?_⟩) ⟨trivial, HP.out _ HQ0.out⟩ ?_
          rotate_left
          · (intro x hx; obtain ⟨-, ⟨s1, s2⟩⟩ := hx; go_simp; try with_reducible rfl)
          try simp only [Act.put, List.setIfInBounds_toArray, List.set_cons_zero, List.set_cons_succ]
          refine wpAnyS_ready [5] (by kernel_rfl) (by simp) ?_
          refine AllReadyS.cons ⟨some 47, .buildSlice 80 1 #[(0, .tmp 46)], _, _, _, none⟩ rfl (fun K hK => ?_) AllReadyS.nil
          go_simp
          refine hK _ _ trivial (fun _ _ => HP.out _ HQ1.out) ?_
          clear hK K
          try simp only [Act.put, List.setIfInBounds_toArray, List.set_cons_zero, List.set_cons_succ]
          refine wpAnyS_ready [6] (by kernel_rfl) (by simp) ?_
          refine AllReadyS.cons ⟨some 48, .call { callee := .builtin .append, args := #[.tmp 42, .tmp 47], argTypes := #[80, 80] }, 80, _, _, none⟩ rfl (fun K hK => ?_) AllReadyS.nil
          refine wp_append_if (.tmp 42) (.tmp 47) 80 (by rfl) rfl rfl rfl (HAPP.out _) ?_
          refine hK _ _ trivial (fun _ _ => HP.out _ HQ2.out) ?_
          clear hK K
          try simp only [Act.put, List.setIfInBounds_toArray, List.set_cons_zero, List.set_cons_succ]
          refine wpAnyS_ready [11] (by kernel_rfl) (by simp) ?_
          refine AllReadyS.cons ⟨some 9, .assign (.tmp 48), 80, _, _, none⟩ rfl (fun K hK => ?_) AllReadyS.nil
          go_simp
          refine hK _ _ trivial (fun _ _ => HP.out _ HQ2.out) ?_
          clear hK K
          try simp only [Act.put, List.setIfInBounds_toArray, List.set_cons_zero, List.set_cons_succ]
          refine wpAnyS_rest 12 (fun _ => trivial) rfl (by kernel_rfl) (by kernel_rfl) ?_
          simp only [List.drop_succ_cons, List.drop_zero]
          go_wp2_with fail
          go_roundw
          case rel =>
            have hn := of_decide_eq_true HC.out.symm
            obtain ⟨g1, g2, g3, g4, g5⟩ := HST.out
            refine ⟨k + 1, xs ++ [(.iface tg vg)], by go_num, hlt, HQ2.out, by rw [List.length_append, List.length_singleton]; exact HO3.out.1, ?_, HO3.out.2, fun _ => by rw [Nat.add_sub_cancel]; exact HREP.out.2⟩
            simp only [onceN]
            rw [if_pos hn]
            exact g3.snoc HREP.out.1
          case measure => simp [Go.RowKit.intOf]; omega
    · have hik : ¬ (k : Int) < l.length := by omega
      obtain rfl : k = l.length := by omega
      have HN := Lib.hid (And.intro hbw (And.intro hown (And.intro hrep hne)))
      clear hbw hown hrep hne hlast
      go_wp2_with fail
      refine bodyPost_ret (v := .iface 80 (.slice (some ⟨gb, 0, none⟩) xs.length cap)) (by simp [results, Tryz.results110, go_sem]) rfl ?_
      obtain ⟨g1, g2, g3, g4⟩ := HN.out
      have hb := HB1.out.trans (g1.mono (by omega))
      refine ⟨_, rfl, hb, ownsRow_rep g2 g4 g3 hb HS.out.1, sz_of_ok _ ⟨Nat.le_trans (onceN_length _ _ _) (by unfold lim; omega), (oks_iff _).2 (onceN_mem _ (ordL_ok HOL.out) _)⟩⟩
end Go.Gj

/-
  gojq.funcGroupBy: groups as rows of our own.
-/
namespace Go.Gj
set_option linter.unusedSimpArgs false
set_option linter.unusedVariables false
set_option linter.unnecessarySimpa false
open Go Go.RowKit Go.Proofs

/-- Where an append puts the row: where it stood, or behind all that there is. -/
theorem append_blk {w : World} {base : Nat} {v : Value} {n : Nat} {xs : List Value} (hown : w.ownsRow base 20 1 v n xs) {g0 : Nat} (hv : v.ownBlock = some g0) {B : Nat} {g : Value} {c : Nat} (hB : w.cell? ⟨B, 0, none⟩ = some g) (h1 : g.oneCell' = true) (hn : n ≤ 1000000) {ty : TypeId} {v' : Value} {w' : World}
    (hrun : (Builtin.append_ #[80, 80] ty #[v, .slice (some ⟨B, 0, none⟩) 1 c]).run Tryz.prog w = .ok v' w') : v'.ownBlock = some g0 ∨ v'.ownBlock = some w.heap.size := by
  obtain ⟨i, hi, hz, hs, hb⟩ := info20s
  have hnews : ∀ j u, [g][j]? = some u → w.cell? ((⟨B, 0, none⟩ : Addr).add j) = some u := fun j u hj => by
    have : j = 0 := by
      have := (List.getElem?_eq_some_iff.1 hj).1
      simp at this; omega
    subst this
    simp at hj
    subst hj
    simpa [Addr.add] using hB
  have hown2 := hown
  obtain ⟨hl, ⟨rfl, _⟩ | ⟨gg, cap, cur, rfl, hbg, hg, hnc, hcm, hcs, htake⟩⟩ := hown
  · cases hv
  · obtain rfl : gg = g0 := by simpa [Value.ownBlock] using hv
    by_cases hroom : n + 1 ≤ cap
    · have hr := run_append_room (P := Tryz.prog) w 80 ty 20 i Tryz.underlying80 hi gg n cap cur hg ⟨B, 0, none⟩ 1 c [g] (by rw [hs]; rfl) hnews (by simpa using h1) hroom (by rw [hs, hcs]; simp; omega)
      rw [hr] at hrun
      injection hrun with e1 e2
      subst e1
      exact .inl rfl
    · have holds : ∀ j u, xs[j]? = some u → w.cell? ((⟨gg, 0, none⟩ : Addr).add j) = some u := hown2.cells (g := gg) rfl
      have hr := run_append_grow (P := Tryz.prog) w 80 ty 20 i .nilIface Tryz.underlying80 hi hz ⟨gg, 0, none⟩ n cap xs (by rw [hs]; exact hl) holds ⟨B, 0, none⟩ 1 c [g] (by rw [hs]; rfl) hnews (by omega) (by omega) (growslice_fits (by omega) (by rw [hb]; omega))
      rw [hr] at hrun
      injection hrun with e1 e2
      subst e1
      exact .inr rfl

/-- The groups, of the first k. -/
def addLast (gs : List (List J)) (x : J) : List (List J) := gs.set (gs.length - 1) (gs.getD (gs.length - 1) [] ++ [x])
def grpN (sl sk : List J) : Nat → List (List J)
  | 0 => []
  | k + 1 => if k = 0 ∨ cmpJ (sk.getD (k - 1) .null) (sk.getD k .null) ≠ 0 then grpN sl sk k ++ [[sl.getD k .null]] else addLast (grpN sl sk k) (sl.getD k .null)

theorem grpN_pos (sl sk : List J) : ∀ k, 0 < k → 0 < (grpN sl sk k).length
  | 0, h => by omega
  | k + 1, _ => by
    unfold grpN
    split
    · simp
    · rename_i h
      have hk : k ≠ 0 := fun e => h (.inl e)
      have := grpN_pos sl sk k (by omega)
      simpa [addLast] using this
theorem grpN_length (sl sk : List J) : ∀ k, (grpN sl sk k).length ≤ k
  | 0 => Nat.le_refl _
  | k + 1 => by
    have := grpN_length sl sk k
    unfold grpN
    split
    · simp; omega
    · simp [addLast]; omega
theorem grpN_each (sl sk : List J) (hl : ∀ x ∈ sl, x.ok) : ∀ k, ∀ g ∈ grpN sl sk k, g.length ≤ k ∧ ∀ x ∈ g, x.ok
  | 0, g, h => by cases h
  | k + 1, g, h => by
    have ih := grpN_each sl sk hl k
    unfold grpN at h
    split at h
    · rcases List.mem_append.1 h with h | h
      · exact ⟨by have := (ih g h).1; omega, (ih g h).2⟩
      · simp at h
        subst h
        exact ⟨by simp, fun x hx => by simp at hx; subst hx; exact getD_ok hl k⟩
    · rename_i hc
      have hk : k ≠ 0 := fun e => hc (.inl e)
      have hpos := grpN_pos sl sk k (by omega)
      unfold addLast at h
      rcases List.mem_or_eq_of_mem_set h with h | h
      · exact ⟨by have := (ih g h).1; omega, (ih g h).2⟩
      · have hgl : (grpN sl sk k).getD ((grpN sl sk k).length - 1) [] = (grpN sl sk k)[(grpN sl sk k).length - 1]'(by omega) := by
          rw [List.getD_eq_getElem?_getD, List.getElem?_eq_getElem (by omega)]; rfl
        rw [hgl] at h
        have hm := ih _ (List.getElem_mem (l := grpN sl sk k) (n := (grpN sl sk k).length - 1) (by omega))
        subst h
        refine ⟨by simp; omega, fun x hx => ?_⟩
        rcases List.mem_append.1 hx with hx | hx
        · exact hm.2 x hx
        · simp at hx; subst hx; exact getD_ok hl k

/-- The groups' rows: each its own, none of them the row r. -/
structure Grps (w0 : World) (S : Nat → Prop) (w : World) (base r : Nat) (vs : List Value) (gs : List (List J)) : Prop where
  len : vs.length = gs.length
  each : ∀ i (hi : i < vs.length), ∃ (ys : List Value) (b : Nat), vs[i].ownBlock = some b ∧ b ≠ r ∧ w.ownsRow base 20 1 vs[i] ys.length ys ∧ RepL w0 S (gs[i]'(by omega)) ys
  apart : ∀ i j (hi : i < vs.length) (hj : j < vs.length), i ≠ j → vs[i].ownBlock ≠ vs[j].ownBlock

theorem Grps.nil (w0 : World) (S : Nat → Prop) (w : World) (base r : Nat) : Grps w0 S w base r [] [] := ⟨rfl, fun i hi => absurd hi (Nat.not_lt_zero _), fun i j hi => absurd hi (Nat.not_lt_zero _)⟩

theorem ownsRow_lt {w : World} {base : Nat} {v : Value} {n : Nat} {xs : List Value} (h : w.ownsRow base 20 1 v n xs) {b : Nat} (hb : v.ownBlock = some b) : b < w.heap.size := by
  obtain ⟨_, ⟨rfl, _⟩ | ⟨g, cap, cur, rfl, _, hg, _⟩⟩ := h
  · cases hb
  · obtain rfl : g = b := by simpa [Value.ownBlock] using hb
    exact (Array.getElem?_eq_some_iff.1 hg).1
theorem ownsRow_block {w w' : World} {base : Nat} {v : Value} {n : Nat} {xs : List Value} (h : w.ownsRow base 20 1 v n xs) {b : Nat} (hb : v.ownBlock = some b) (he : w'.heap[b]? = w.heap[b]?) : w'.ownsRow base 20 1 v n xs := by
  obtain ⟨h1, ⟨rfl, h2⟩ | ⟨g, cap, cur, rfl, hbg, hg, h3⟩⟩ := h
  · exact ⟨h1, .inl ⟨rfl, h2⟩⟩
  · obtain rfl : g = b := by simpa [Value.ownBlock] using hb
    exact ⟨h1, .inr ⟨g, cap, cur, rfl, hbg, he.trans hg, h3⟩⟩

/-- The groups stay where their rows do, though the row r moves on. -/
theorem Grps.keep {w0 w w' : World} {S : Nat → Prop} {base r r' : Nat} {vs : List Value} {gs : List (List J)} (h : Grps w0 S w base r vs gs) (hk : ∀ b, b < w.heap.size → b ≠ r → w'.heap[b]? = w.heap[b]?) (hr : r' = r ∨ w.heap.size ≤ r') : Grps w0 S w' base r' vs gs := by
  refine ⟨h.len, fun i hi => ?_, h.apart⟩
  obtain ⟨ys, b, h1, h2, h3, h4⟩ := h.each i hi
  have hlt := ownsRow_lt h3 h1
  exact ⟨ys, b, h1, by rcases hr with e | e <;> omega, ownsRow_block h3 h1 (hk b hlt h2), h4⟩

/-- A new group. -/
theorem Grps.snoc {w0 w : World} {S : Nat → Prop} {base r : Nat} {vs : List Value} {gs : List (List J)} (h : Grps w0 S w base r vs gs) {v : Value} {b : Nat} {ys : List Value} {g : List J} (hb : v.ownBlock = some b) (hbr : b ≠ r) (hown : w.ownsRow base 20 1 v ys.length ys) (hr : RepL w0 S g ys)
    (hnew : ∀ i (hi : i < vs.length), vs[i].ownBlock ≠ some b) : Grps w0 S w base r (vs ++ [v]) (gs ++ [g]) := by
  have hl := h.len
  refine ⟨by simp [hl], fun i hi => ?_, fun i j hi hj hij => ?_⟩
  · by_cases hiv : i < vs.length
    · obtain ⟨ys', b', h1, h2, h3, h4⟩ := h.each i hiv
      refine ⟨ys', b', ?_, h2, ?_, ?_⟩
      · rw [List.getElem_append_left hiv]; exact h1
      · rw [List.getElem_append_left hiv]; exact h3
      · rw [List.getElem_append_left (by omega)]; exact h4
    · have hi' : i = vs.length := by simp at hi; omega
      subst hi'
      refine ⟨ys, b, ?_, hbr, ?_, ?_⟩
      · simpa using hb
      · simpa using hown
      · simp only [hl, List.getElem_append_right (Nat.le_refl _), Nat.sub_self, List.getElem_cons_zero]; exact hr
  · by_cases hiv : i < vs.length
    · rw [List.getElem_append_left hiv]
      by_cases hjv : j < vs.length
      · rw [List.getElem_append_left hjv]; exact h.apart i j hiv hjv hij
      · have hj' : j = vs.length := by simp at hj; omega
        subst hj'
        have := hnew i hiv
        simpa [hb] using this
    · have hi' : i = vs.length := by simp at hi; omega
      subst hi'
      by_cases hjv : j < vs.length
      · rw [List.getElem_append_left hjv]
        have := hnew j hjv
        simp [hb]
        exact fun e => this e.symm
      · simp at hj; omega

/-- The last group longer by one. -/
theorem Grps.last {w0 w w' : World} {S : Nat → Prop} {base r : Nat} {vs : List Value} {gs : List (List J)} (h : Grps w0 S w base r vs gs) {i : Nat} (hi : i < vs.length) {v' : Value} {b' : Nat} {ys : List Value} {g : List J} (hb : v'.ownBlock = some b') (hbr : b' ≠ r)
    (hown : w'.ownsRow base 20 1 v' ys.length ys) (hr : RepL w0 S g ys) (hk : ∀ b, b < w.heap.size → some b ≠ vs[i].ownBlock → b ≠ r → w'.heap[b]? = w.heap[b]?) (hnew : some b' = vs[i].ownBlock ∨ w.heap.size ≤ b') : Grps w0 S w' base r (vs.set i v') (gs.set i g) := by
  have hl := h.len
  have hother : ∀ j (hj : j < vs.length), j ≠ i → vs[j].ownBlock ≠ some b' := fun j hj hji e => by
    rcases hnew with e1 | e1
    · exact h.apart j i hj hi hji (e.trans e1)
    · obtain ⟨ys', b2, h1, h2, h3, h4⟩ := h.each j hj
      have hlt := ownsRow_lt h3 h1
      rw [h1] at e
      obtain rfl := Option.some.inj e
      omega
  refine ⟨by simp [hl], fun j hj => ?_, fun j k hj hk' hjk => ?_⟩
  · have hj' : j < vs.length := by simpa using hj
    by_cases e : j = i
    · subst e
      refine ⟨ys, b', by simpa using hb, hbr, by simpa using hown, by simpa using hr⟩
    · obtain ⟨ys', b2, h1, h2, h3, h4⟩ := h.each j hj'
      have hlt := ownsRow_lt h3 h1
      have hne : some b2 ≠ vs[i].ownBlock := by rw [← h1]; exact h.apart j i hj' hi e
      refine ⟨ys', b2, ?_, h2, ?_, ?_⟩
      · rw [List.getElem_set_ne (Ne.symm e)]; exact h1
      · rw [List.getElem_set_ne (Ne.symm e)]; exact ownsRow_block h3 h1 (hk b2 hlt hne h2)
      · rw [List.getElem_set_ne (Ne.symm e)]; exact h4
  · have hj' : j < vs.length := by simpa using hj
    have hk2 : k < vs.length := by simpa using hk'
    by_cases e1 : j = i
    · subst e1
      rw [List.getElem_set_ne hjk]
      simp only [List.getElem_set_self, hb]
      exact fun e => hother k hk2 (Ne.symm hjk) e.symm
    · rw [List.getElem_set_ne (Ne.symm e1)]
      by_cases e2 : k = i
      · subst e2
        simp only [List.getElem_set_self, hb]
        exact hother j hj' e1
      · rw [List.getElem_set_ne (Ne.symm e2)]
        exact h.apart j k hj' hk2 hjk
end Go.Gj
