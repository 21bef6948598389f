/-
  gojq.funcGroupBy. (Printed by wip/gen_sb6.py.)
-/
import Derived.Test.YtnlndpgbhmkanaaGreatDoorWSb5
namespace Go.Gj
set_option linter.unusedSimpArgs false
set_option linter.unusedVariables false
set_option linter.unnecessarySimpa false
open Go Go.RowKit Go.Proofs

theorem ownsRow_set {w : World} {base : Nat} {n : Nat} {xs : List Value} {g cap i : Nat} {x : Value} (h : w.ownsRow base 20 1 (.slice (some ⟨g, 0, none⟩) n cap) n xs) (hi : i < n) : (w.setCell ⟨g, i, none⟩ x).ownsRow base 20 1 (.slice (some ⟨g, 0, none⟩) n cap) n (xs.set i x) := by
  obtain ⟨h1, ⟨h, _⟩ | ⟨g', cap', cur, he, hbg, hg, hnc, hcm, hcs, htake⟩⟩ := h
  · cases h
  · simp only [Value.slice.injEq, Option.some.injEq, Addr.mk.injEq, and_true, true_and] at he
    obtain ⟨rfl, rfl⟩ := he
    refine ⟨by simpa using h1, .inr ⟨g, cap, cur.setIfInBounds i x, rfl, hbg, by simp [World.setCell, Array.getElem?_modify, hg], hnc, hcm, by simpa using hcs, ?_⟩⟩
    rw [← htake]
    simp [List.take_set]

theorem ownsRow_at {w : World} {base : Nat} {n : Nat} {xs : List Value} {g cap i : Nat} (h : w.ownsRow base 20 1 (.slice (some ⟨g, 0, none⟩) n cap) n xs) (hi : i < xs.length) : w.cell? ⟨g, i, none⟩ = some xs[i] ∧ w.frozen? ⟨g, i, none⟩ = false := by
  obtain ⟨h1, ⟨h, _⟩ | ⟨g', cap', cur, he, hbg, hg, hnc, hcm, hcs, htake⟩⟩ := h
  · cases h
  · simp only [Value.slice.injEq, Option.some.injEq, Addr.mk.injEq, and_true, true_and] at he
    obtain ⟨rfl, rfl⟩ := he
    refine ⟨?_, by simp [World.frozen?, hg]⟩
    simp only [World.cell?, hg]
    have h2 : (cur.toList.take (n * 1))[i]? = some xs[i] := by rw [htake]; exact List.getElem?_eq_getElem hi
    rw [List.getElem?_take] at h2
    split at h2
    · simpa using h2
    · cases h2

theorem ownsRow_slice {w : World} {base : Nat} {v : Value} {n : Nat} {xs : List Value} {b : Nat} (h : w.ownsRow base 20 1 v n xs) (hb : v.ownBlock = some b) : ∃ cap, v = .slice (some ⟨b, 0, none⟩) n cap := by
  obtain ⟨h1, ⟨rfl, _⟩ | ⟨g, cap, cur, rfl, _⟩⟩ := h
  · cases hb
  · obtain rfl : g = b := by simpa [Value.ownBlock] using hb
    exact ⟨cap, rfl⟩

/-- The groups, as a value of any. -/
theorem Grps.rep {w0 w : World} {S : Nat → Prop} {base r : Nat} {vs : List Value} {gs : List (List J)} (h : Grps w0 S w base r vs gs) {v : Value} (hv : v.ownBlock = some r) (hown : w.ownsRow base 20 1 v vs.length (vs.map (.iface 80 ·))) (hb : Below w0.heap.size w0 w) (hS : ∀ b, S b → b < w0.heap.size) : ARep w (allB w) (.arr (gs.map .arr)) (.iface 80 v) := by
  have hl := h.len
  obtain ⟨cap, rfl⟩ := ownsRow_slice hown hv
  have hcap : vs.length ≤ cap ∧ cap ≤ capMost := by
    obtain ⟨h1, ⟨h, _⟩ | ⟨g', cap', cur, he, hbg, hg, hnc, hcm, hcs, htake⟩⟩ := hown
    · cases h
    · simp only [Value.slice.injEq, Option.some.injEq, Addr.mk.injEq, and_true, true_and] at he
      obtain ⟨rfl, rfl⟩ := he
      exact ⟨hnc, by unfold capMost; simp only [maxLen] at hcm; omega⟩
  refine ⟨r, 0, cap, by rw [List.length_map, hl], ⟨by rw [List.length_map]; omega, hcap.2⟩, ownsRow_lt hown hv, ACells.of _ 0 fun j hj => ?_⟩
  have hj2 : j < gs.length := by simpa using hj
  have hj3 : j < vs.length := by omega
  have hc := (ownsRow_at hown (i := j) (by simpa using hj3)).1
  obtain ⟨ys, b, g1, g2, g3, g4⟩ := h.each j hj3
  refine ⟨.iface 80 vs[j], by rw [Nat.zero_add, hc]; simp, ?_⟩
  simp only [List.getElem_map]
  exact ownsRow_rep g3 (fun e => by rw [e] at g1; cases g1) g4 hb hS

set_option maxHeartbeats 4000000 in
set_option maxRecDepth 100000 in
theorem funcGroupBy_ok (l ks : List J) (hokl : ∀ x ∈ l, x.ok) (hlk : ks.length = l.length) (hlen : l.length ≤ lim) (hok : ∀ k ∈ ks, k.ok) (w : World) (S : Nat → Prop) (hS : ∀ b, S b → b < w.heap.size) (gl gg : Value) (h1 : ARep w S (.arr l) gl) (h2 : ARep w S (.arr ks) gg) :
    Calls Tryz.prog 81 #[gl, gg] w (AnyGives w (some (.arr ((grpN (ordL l ks) (ordL ks ks) l.length).map .arr)))) := by
  have HSI := Lib.hid (sortItems_ok ⟨#[103, 114, 111, 117, 112, 95, 98, 121]⟩ l ks hlk hlen hok w S hS gl gg h1 h2)
  have HS := Lib.hid (And.intro hS (And.intro hlk hok))
  have HOL := Lib.hid hokl
  clear h1 h2 hS hok hokl hlk
  unfold lim at hlen
  go_enter Tryz.func81, Tryz.ntmps81
  go_upto_region 4 with (go_at_call 108; refine HSI.out.mono ?_; rintro e w1 ⟨rfl, hb1, d, hrow, hsh, hso⟩; have HR := Lib.hid (hrow.is HS.out.2.1 HS.out.2.2 hsh hso); have HB1 := Lib.hid hb1; have hR : w.heap.size < w1.heap.size := (by obtain ⟨_, _, _, _, _, h⟩ := hrow; omega); clear hb1 hrow hsh hso)
  go_wp2_with fail
  have HI0 : Hid (Below w1.heap.size w1 (w1.alloc (.cells #[] 20)) ∧ (w1.alloc (.cells #[] 20)).ownsRow w1.heap.size 20 1 (.slice (some ⟨w1.heap.size, 0, none⟩) 0 0) 0 []) := Lib.hid ⟨below1 _ _, rfl, .inr ⟨w1.heap.size, 0, #[], rfl, Nat.le_refl _, heap_alloc_new _ _, Nat.le_refl _, by simp only [maxLen]; omega, rfl, rfl⟩⟩
  generalize w1.alloc (.cells #[] 20) = w2 at *
  go_loopw [7, 8, 23] (fun v7 v8 v23 wr => ∃ (k : Nat) (vs : List Value) (gr : Nat), v23 = .int .i64 k ∧ k ≤ l.length ∧ Below w1.heap.size w1 wr ∧ v7.ownBlock = some gr ∧ wr.ownsRow w1.heap.size 20 1 v7 vs.length (vs.map (.iface 80 ·)) ∧ Grps w S wr w1.heap.size gr vs (grpN (ordL l ks) (ordL ks ks) k) ∧ (0 < k → ARep w S ((ordL ks ks).getD (k - 1) .null) v8)) (fun _ _ v23 _ => l.length - (Go.RowKit.intOf v23).toNat)
  case atStart => exact ⟨0, [], w1.heap.size, rfl, Nat.zero_le _, HI0.out.1, rfl, HI0.out.2, .nil _ _ _ _ _, fun h => absurd h (Nat.lt_irrefl _)⟩
  case round =>
    obtain ⟨k, vs, gr, rfl, hk, hbw, hob, hown, hgrp, hlast⟩ := hrel
    obtain ⟨cap, rfl⟩ := ownsRow_slice hown hob
    by_cases hlt : k < l.length
    · have hik : (k : Int) < l.length := by omega
      obtain ⟨p, gv, gk, hp1, hp2, c1, c2, c3, r1, r2⟩ := HR.out.at_ k hlt
      rw [← hbw.cell hR] at c1
      have hxs : vs.length ≤ k := by rw [hgrp.len]; exact grpN_length _ _ _
      have hgl : (ordL l ks)[k]'(by rw [HR.out.len]; exact hlt) = (ordL l ks).getD k .null := (getD_J (by rw [HR.out.len]; exact hlt)).symm
      have hgk : (ordL ks ks)[k]'(by rw [HR.out.lenk]; exact hlt) = (ordL ks ks).getD k .null := (getD_J (by rw [HR.out.lenk]; exact hlt)).symm
      rw [hgl] at r1
      rw [hgk] at r2
      have okk : ∀ i, ((ordL ks ks).getD i .null).ok := fun i => getD_ok (ordL_ok HS.out.2.2) i
      have HCMP := Lib.hid (fun (h0 : 0 < k) (wx : World) (hx : Below w1.heap.size w1 wx) => Compare_ok _ _ (okk (k - 1)) (okk k) wx S u8 gk (fun b hb => Nat.lt_of_lt_of_le (Nat.lt_of_lt_of_le (HS.out.1 b hb) (HB1.out.size)) hx.size) ((hlast h0).keep (.of_below (HB1.out.trans (hx.mono HB1.out.size)) HS.out.1) (fun _ h => h)) (r2.keep (.of_below (HB1.out.trans (hx.mono HB1.out.size)) HS.out.1) (fun _ h => h)))
      have HP : Hid (∀ wx, Below w1.heap.size w1 wx → wx.cell? ⟨p, 0, none⟩ = some gv ∧ wx.cell? ⟨p, 1, none⟩ = some gk) := Lib.hid fun wx hx => ⟨(hx.cell hp2).trans c2, (hx.cell hp2).trans c3⟩
      have HST := Lib.hid (And.intro hbw (And.intro hown (And.intro hgrp hlast)))
      have hcell := HP.out _ hbw
      obtain ⟨cc1, cc2⟩ := hcell
      have HREP := Lib.hid (And.intro r1 r2)
      clear hbw hown hgrp hlast r1 r2 hgl hgk okk c2 c3 hob
      obtain ⟨c, hc⟩ : ∃ c, c = decide (k = 0 ∨ cmpJ ((ordL ks ks).getD (k - 1) .null) ((ordL ks ks).getD k .null) ≠ 0) := ⟨_, rfl⟩
      have HC := Lib.hid hc
      clear hc
      go_upto_region 9 with fail
      go_cut [38] (fun v wx => v = .bool c ∧ Below wr.heap.size wr wx)
      case first =>
        by_cases hk0 : k = 0
        · subst hk0
          have hct : c = true := by rw [HC.out]; simp
          have HCT := Lib.hid hct
          clear hct
          go_wp2_with fail
          go_meet
          exact ⟨by rw [HCT.out], Below.refl _ _⟩
        · have hk1 : ((k : Int) == 0) = false := by rw [beq_eq_false_iff_ne]; omega
          have hcd : c = (cmpJ ((ordL ks ks).getD (k - 1) .null) ((ordL ks ks).getD k .null) != 0) := by
            rw [HC.out, Bool.eq_iff_iff]
            simp [hk0]
          have HCD := Lib.hid hcd
          clear hcd
          have HCM := Lib.hid (HCMP.out (by omega) wr HST.out.1)
          generalize cmpJ ((ordL ks ks).getD (k - 1) .null) ((ordL ks ks).getD k .null) = dd at HCM HCD
          go_wp2_with (go_at_call 109; refine HCM.out.mono ?_; rintro e wx ⟨rfl, hx⟩; have HX := Lib.hid hx; clear hx)
          go_meet
          exact ⟨by rw [HCD.out], HX.out⟩
      obtain ⟨rfl, hbx⟩ := hcut
      have HBX := Lib.hid hbx
      have HWX := Lib.hid (HST.out.1.trans (hbx.mono HST.out.1.size))
      clear hbx
      have hshape := HREP.out.1.shape
      have hcx := HP.out _ HWX.out
      have hgr1 : gr < wr.heap.size := ownsRow_lt HST.out.2.1 rfl
      have hgr2 : w1.heap.size ≤ gr := ownBlock_base HST.out.2.1 gr rfl
      have hsz := HBX.out.size
      cases c with
      | false =>
        have hk0 : 0 < k := by
          have hn := of_decide_eq_false HC.out.symm
          exact Nat.pos_of_ne_zero fun e => hn (.inl e)
        have hpos : 0 < vs.length := by rw [HST.out.2.2.1.len]; exact grpN_pos _ _ _ hk0
        obtain ⟨m', hm'⟩ : ∃ m', vs.length = m' + 1 := ⟨vs.length - 1, by omega⟩
        obtain ⟨ys, bl, hy1, hy2, hyo, hyr⟩ := HST.out.2.2.1.each m' (by omega)
        obtain ⟨capl, hvl⟩ := ownsRow_slice hyo hy1
        rw [hvl] at hyo
        have hbl1 := ownsRow_lt hyo rfl
        have hyl : ys.length ≤ k := by
          rw [hyr.1]
          exact (grpN_each _ _ (ordL_ok HOL.out) k _ (List.getElem_mem _)).1
        replace hyr : RepL w S ((grpN (ordL l ks) (ordL ks ks) k).getD m' []) ys := by
          rw [List.getD_eq_getElem?_getD, List.getElem?_eq_getElem (by rw [← HST.out.2.2.1.len]; omega)]
          exact hyr
        clear hy1 hk0 hpos
        rcases hshape with rfl | ⟨tg, vg, rfl⟩
        · obtain ⟨cx1, cx2⟩ := hcx
          have HQ0 := Lib.hid HWX.out.drew
          have hdr := (Below.refl wc.heap.size wc).drew
          have hal := (below1 wc.drew (.cells #[.nilIface] 20))
          have hs1 := size_alloc wc.drew (.cells #[.nilIface] 20)
          have hdz : wc.drew.heap.size = wc.heap.size := rfl
          have hownc := ownsRow_below (ownsRow_below HST.out.2.1 HBX.out) hdr
          have hownA := ownsRow_below (ownsRow_below HST.out.2.1 HBX.out) (hdr.trans hal)
          have hlastA := ownsRow_below (ownsRow_below hyo HBX.out) (hdr.trans hal)
          have hn1 := heap_alloc_new wc.drew (.cells #[.nilIface] 20)
          have hnew : (wc.drew.alloc (.cells #[.nilIface] 20)).cell? ⟨wc.heap.size, 0, none⟩ = some .nilIface := by
            unfold World.cell?
            show (match (wc.drew.alloc (.cells #[.nilIface] 20)).heap[wc.drew.heap.size]? with | some (.cells c elem frozen) => c[0]? | x => none) = _
            rw [hn1]
            rfl
          obtain ⟨v3, w3, happ, hown3, hgr3, hne3⟩ := append_one _ w1.heap.size _ ys.length _ hlastA wc.heap.size .nilIface 1 hnew rfl (by omega) (by have := HWX.out.size; omega)
          have hblk := append_blk hlastA (g0 := bl) rfl hnew rfl (by omega) (happ 0)
          rw [hs1, hdz] at hblk
          have HQ1 := Lib.hid (HWX.out.trans ((hdr.trans hal).mono HWX.out.size))
          have hQ2 := HQ1.out.trans (grown_below hgr3 HQ1.out.size (ownBlock_base hlastA))
          have HQ2 := Lib.hid hQ2
          have hrs3 : w3.heap[gr]? = wr.heap[gr]? := (hgr3.block gr (by omega) (by simp [Value.ownBlock]; omega)).trans ((hal.block gr (by omega)).trans ((hdr.block gr (by omega)).trans (HBX.out.block gr hgr1)))
          have hrow3 := ownsRow_block HST.out.2.1 (w' := w3) (b := gr) rfl hrs3
          have hat3 := ownsRow_at hrow3 (i := m') (by simp; omega)
          have hset := ownsRow_set (x := .iface 80 v3) hrow3 (i := m') (by omega)
          obtain ⟨b', hb', hbc⟩ : ∃ b', v3.ownBlock = some b' ∧ (b' = bl ∨ b' = wc.heap.size + 1) := by
            rcases hblk with e | e
            · exact ⟨_, e, .inl rfl⟩
            · exact ⟨_, e, .inr rfl⟩
          have hbgr : b' ≠ gr := by rcases hbc with e | e <;> omega
          have hsetne : ∀ b, b ≠ gr → (w3.setCell ⟨gr, m', none⟩ (.iface 80 v3)).heap[b]? = w3.heap[b]? := fun b hb => Below.heap_setCell _ _ _ _ hb
          have hown4 := ownsRow_block hown3 hb' (hsetne b' hbgr)
          have hg4 := HST.out.2.2.1.last (w' := w3.setCell ⟨gr, m', none⟩ (.iface 80 v3)) (i := m') (by omega) (v' := v3) (b' := b') (ys := ys ++ [.nilIface]) (g := (grpN (ordL l ks) (ordL ks ks) k).getD m' [] ++ [(ordL l ks).getD k .null]) hb' hbgr (by rw [List.length_append, List.length_singleton]; exact hown4) (hyr.snoc HREP.out.1) (fun b hb hne1 hne2 => by
              rw [hvl] at hne1
              exact (hsetne b hne2).trans ((hgr3.block b (by omega) hne1).trans ((hal.block b (by omega)).trans ((hdr.block b (by omega)).trans (HBX.out.block b hb))))) (by
              rw [hvl]
              rcases hbc with e | e
              · left; simp [Value.ownBlock, e]
              · right; omega)
          have hcell : wc.drew.cell? ⟨gr, m', none⟩ = some (.iface 80 (.slice (some ⟨bl, 0, none⟩) ys.length capl)) := by
            have h := (ownsRow_at hownc (i := m') (by simp; omega)).1
            rw [h]
            simp [hvl]
          have HSC : Hid (∀ wx : World, wx.heap[gr]? = wr.heap[gr]? → wx.cell? ⟨gr, m', none⟩ = some (.iface 80 (.slice (some ⟨bl, 0, none⟩) ys.length capl))) := Lib.hid fun wx hx => by
            have h := (ownsRow_at (ownsRow_block HST.out.2.1 (w' := wx) (b := gr) rfl hx) (i := m') (by simp; omega)).1
            rw [h]
            simp [hvl]
          have HH0 : Hid (wc.drew.heap[gr]? = wr.heap[gr]?) := Lib.hid ((hdr.block gr (by omega)).trans (HBX.out.block gr hgr1))
          have HH1 : Hid ((wc.drew.alloc (.cells #[.nilIface] 20)).heap[gr]? = wr.heap[gr]?) := Lib.hid ((hal.block gr (by omega)).trans HH0.out)
          have HH2 := Lib.hid hrs3
          have hcs3 : w3.cell? ⟨gr, m', none⟩ = some (.iface 80 (.slice (some ⟨bl, 0, none⟩) ys.length capl)) := HSC.out w3 hrs3
          have hcf3 := hat3.2
          have HQ3 := Lib.hid (HQ2.out.setCell (p := ⟨gr, m', none⟩) hgr2 (.iface 80 v3))
          have HO3 := Lib.hid (And.intro hset hg4)
          have HAPP := Lib.hid happ
          have hi1 : ((vs.length : Nat) : Int) - 1 = (m' : Int) := by omega
          have hi2 : (m' : Int) < (vs.length : Int) := by omega
          have hi3 : (0 : Int) ≤ (m' : Int) := by omega
          have hwm : Go.IntKind.wrap .i64 (m' : Int) = (m' : Int) := by rw [IntKind.wrap_i64]; omega
          clear hownc hownA hlastA hn1 hnew hown3 hgr3 happ hblk hrs3 hrow3 hset hb' hbc hbgr hsetne hown4 hg4 hat3 hal hdr hs1 hdz hQ2 hcell hne3
          have HYO := Lib.hid (And.intro hyo hyr)
          clear hyo hyr
          have HM := Lib.hid hm'
          clear hvl hm'
          go_upto_region 11 with fail
          refine wp_region_S (fun i => decide (18 ≤ i)) (fun w4 => (w4.cell? ⟨p, 0, none⟩ = some .nilIface ∧ w4.cell? ⟨p, 1, none⟩ = some gk) ∧ w4.cell? ⟨gr, m', none⟩ = some (.iface 80 (.slice (some ⟨bl, 0, none⟩) ys.length capl))) (fun _ => True) (by kernel_rfl) ?_
          refine wpAnyS_takeU 0 ⟨some 52, .move (.tmp 7), 80, _, _, none⟩ (v := ?_) rfl (by kernel_rfl) (by kernel_rfl) (by kernel_rfl) (by kernel_rfl) (by kernel_rfl) (fun _ _ _ h => h) (Or.inl ⟨by rfl, ?_⟩) ⟨trivial, ⟨HP.out _ HQ0.out, HSC.out _ HH0.out⟩⟩ ?_
          rotate_left
          · (intro x hx; clear hx; go_simp; try with_reducible rfl)
          try simp only [Act.put, List.setIfInBounds_toArray, List.set_cons_zero, List.set_cons_succ]
          refine wpAnyS_takeU 1 ⟨some 53, .move (.tmp 7), 80, _, _, none⟩ (v := ?_) rfl (by kernel_rfl) (by kernel_rfl) (by kernel_rfl) (by kernel_rfl) (by kernel_rfl) (fun _ _ _ h => h) (Or.inl ⟨by rfl, ?_⟩) ⟨trivial, ⟨HP.out _ HQ0.out, HSC.out _ HH0.out⟩⟩ ?_
          rotate_left
          · (intro x hx; clear hx; go_simp; try with_reducible rfl)
          try simp only [Act.put, List.setIfInBounds_toArray, List.set_cons_zero, List.set_cons_succ]
          refine wpAnyS_takeU 2 ⟨some 54, .call { callee := .builtin .len, args := #[.tmp 53], argTypes := #[80] }, 3, _, _, none⟩ (v := ?_) rfl (by kernel_rfl) (by kernel_rfl) (by kernel_rfl) (by kernel_rfl) (by kernel_rfl) (fun _ _ _ h => h) (Or.inl ⟨by rfl, ?_⟩) ⟨trivial, ⟨HP.out _ HQ0.out, HSC.out _ HH0.out⟩⟩ ?_
          rotate_left
          · (intro x hx; clear hx; go_simp; try with_reducible rfl)
          try simp only [Act.put, List.setIfInBounds_toArray, List.set_cons_zero, List.set_cons_succ]
          refine wpAnyS_takeU 3 ⟨some 55, .binOp .sub 3 (.tmp 54) (.const (.int .i64 1)) 3, 3, _, _, none⟩ (v := ?_) rfl (by kernel_rfl) (by kernel_rfl) (by kernel_rfl) (by kernel_rfl) (by kernel_rfl) (fun _ _ _ h => h) (Or.inl ⟨by rfl, ?_⟩) ⟨trivial, ⟨HP.out _ HQ0.out, HSC.out _ HH0.out⟩⟩ ?_
          rotate_left
          · (intro x hx; clear hx; go_simp; try with_reducible rfl)
          try simp only [Act.put, List.setIfInBounds_toArray, List.set_cons_zero, List.set_cons_succ]
          refine wpAnyS_takeU 4 ⟨some 56, .move (.tmp 7), 80, _, _, none⟩ (v := ?_) rfl (by kernel_rfl) (by kernel_rfl) (by kernel_rfl) (by kernel_rfl) (by kernel_rfl) (fun _ _ _ h => h) (Or.inl ⟨by rfl, ?_⟩) ⟨trivial, ⟨HP.out _ HQ0.out, HSC.out _ HH0.out⟩⟩ ?_
          rotate_left
          · (intro x hx; clear hx; go_simp; try with_reducible rfl)
          try simp only [Act.put, List.setIfInBounds_toArray, List.set_cons_zero, List.set_cons_succ]
          refine wpAnyS_takeU 5 ⟨some 57, .move (.tmp 7), 80, _, _, none⟩ (v := ?_) rfl (by kernel_rfl) (by kernel_rfl) (by kernel_rfl) (by kernel_rfl) (by kernel_rfl) (fun _ _ _ h => h) (Or.inl ⟨by rfl, ?_⟩) ⟨trivial, ⟨HP.out _ HQ0.out, HSC.out _ HH0.out⟩⟩ ?_
          rotate_left
          · (intro x hx; clear hx; go_simp; try with_reducible rfl)
          try simp only [Act.put, List.setIfInBounds_toArray, List.set_cons_zero, List.set_cons_succ]
          refine wpAnyS_takeU 6 ⟨some 58, .call { callee := .builtin .len, args := #[.tmp 57], argTypes := #[80] }, 3, _, _, none⟩ (v := ?_) rfl (by kernel_rfl) (by kernel_rfl) (by kernel_rfl) (by kernel_rfl) (by kernel_rfl) (fun _ _ _ h => h) (Or.inl ⟨by rfl, ?_⟩) ⟨trivial, ⟨HP.out _ HQ0.out, HSC.out _ HH0.out⟩⟩ ?_
          rotate_left
          · (intro x hx; clear hx; go_simp; try with_reducible rfl)
          try simp only [Act.put, List.setIfInBounds_toArray, List.set_cons_zero, List.set_cons_succ]
          refine wpAnyS_takeU 7 ⟨some 59, .binOp .sub 3 (.tmp 58) (.const (.int .i64 1)) 3, 3, _, _, none⟩ (v := ?_) rfl (by kernel_rfl) (by kernel_rfl) (by kernel_rfl) (by kernel_rfl) (by kernel_rfl) (fun _ _ _ h => h) (Or.inl ⟨by rfl, ?_⟩) ⟨trivial, ⟨HP.out _ HQ0.out, HSC.out _ HH0.out⟩⟩ ?_
          rotate_left
          · (intro x hx; clear hx; go_simp; try with_reducible rfl)
          try simp only [Act.put, List.setIfInBounds_toArray, List.set_cons_zero, List.set_cons_succ]
          refine wpAnyS_takeU 8 ⟨some 60, .indexAddr 80 (.tmp 56) (.tmp 59), _, _, _, none⟩ (v := ?_) rfl (by kernel_rfl) (by kernel_rfl) (by kernel_rfl) (by kernel_rfl) (by kernel_rfl) (fun _ _ _ h => h) (Or.inl ⟨by rfl, ?_⟩) ⟨trivial, ⟨HP.out _ HQ0.out, HSC.out _ HH0.out⟩⟩ ?_
          rotate_left
          · (intro x hx; clear hx; go_simp; try with_reducible rfl)
          try simp only [Act.put, List.setIfInBounds_toArray, List.set_cons_zero, List.set_cons_succ]
          refine wpAnyS_takeU 9 ⟨some 61, .load 20 (.tmp 60), 20, _, _, none⟩ (v := ?_) rfl (by kernel_rfl) (by kernel_rfl) (by kernel_rfl) (by kernel_rfl) (by kernel_rfl) (fun _ _ _ h => h) (Or.inl ⟨by rfl, ?_⟩) ⟨trivial, ⟨HP.out _ HQ0.out, HSC.out _ HH0.out⟩⟩ ?_
          rotate_left
          · (intro x hx; obtain ⟨-, ⟨⟨s1, s2⟩, s3⟩⟩ := hx; go_simp; try with_reducible rfl)
          try simp only [Act.put, List.setIfInBounds_toArray, List.set_cons_zero, List.set_cons_succ]
          refine wpAnyS_takeU 10 ⟨some 62, .typeAssert (.tmp 61) 20 80 false, 80, _, _, none⟩ (v := ?_) rfl (by kernel_rfl) (by kernel_rfl) (by kernel_rfl) (by kernel_rfl) (by kernel_rfl) (fun _ _ _ h => h) (Or.inl ⟨by rfl, ?_⟩) ⟨trivial, ⟨HP.out _ HQ0.out, HSC.out _ HH0.out⟩⟩ ?_
          rotate_left
          · (intro x hx; clear hx; go_simp; try with_reducible rfl)
          try simp only [Act.put, List.setIfInBounds_toArray, List.set_cons_zero, List.set_cons_succ]
          refine wpAnyS_takeU 11 ⟨some 63, .move (.tmp 10), 136, _, _, none⟩ (v := ?_) rfl (by kernel_rfl) (by kernel_rfl) (by kernel_rfl) (by kernel_rfl) (by kernel_rfl) (fun _ _ _ h => h) (Or.inl ⟨by rfl, ?_⟩) ⟨trivial, ⟨HP.out _ HQ0.out, HSC.out _ HH0.out⟩⟩ ?_
          rotate_left
          · (intro x hx; clear hx; go_simp; try with_reducible rfl)
          try simp only [Act.put, List.setIfInBounds_toArray, List.set_cons_zero, List.set_cons_succ]
          refine wpAnyS_takeU 12 ⟨some 64, .nilCheck (.tmp 63), _, _, _, none⟩ (v := ?_) rfl (by kernel_rfl) (by kernel_rfl) (by kernel_rfl) (by kernel_rfl) (by kernel_rfl) (fun _ _ _ h => h) (Or.inl ⟨by rfl, ?_⟩) ⟨trivial, ⟨HP.out _ HQ0.out, HSC.out _ HH0.out⟩⟩ ?_
          rotate_left
          · (intro x hx; clear hx; go_simp; try with_reducible rfl)
          try simp only [Act.put, List.setIfInBounds_toArray, List.set_cons_zero, List.set_cons_succ]
          refine wpAnyS_takeU 13 ⟨some 65, .fieldAddr 139 (.tmp 64) 0, _, _, _, none⟩ (v := ?_) rfl (by kernel_rfl) (by kernel_rfl) (by kernel_rfl) (by kernel_rfl) (by kernel_rfl) (fun _ _ _ h => h) (Or.inl ⟨by rfl, ?_⟩) ⟨trivial, ⟨HP.out _ HQ0.out, HSC.out _ HH0.out⟩⟩ ?_
          rotate_left
          · (intro x hx; clear hx; go_simp; try with_reducible rfl)
          try simp only [Act.put, List.setIfInBounds_toArray, List.set_cons_zero, List.set_cons_succ]
          refine wpAnyS_takeU 14 ⟨some 66, .load 20 (.tmp 65), 20, _, _, none⟩ (v := ?_) rfl (by kernel_rfl) (by kernel_rfl) (by kernel_rfl) (by kernel_rfl) (by kernel_rfl) (fun _ _ _ h => h) (Or.inl ⟨by rfl, ?_⟩) ⟨trivial, ⟨HP.out _ HQ0.out, HSC.out _ HH0.out⟩⟩ ?_
          rotate_left
          · (intro x hx; obtain ⟨-, ⟨⟨s1, s2⟩, s3⟩⟩ := hx; go_simp; try with_reducible rfl)
          try simp only [Act.put, List.setIfInBounds_toArray, List.set_cons_zero, List.set_cons_succ]
          refine wpAnyS_ready [15] (by kernel_rfl) (by simp) ?_
          refine AllReadyS.cons ⟨some 67, .buildSlice 80 1 #[(0, .tmp 66)], _, _, _, none⟩ rfl (fun K hK => ?_) AllReadyS.nil
          go_simp
          refine hK _ _ trivial (fun _ _ => ⟨HP.out _ HQ1.out, HSC.out _ HH1.out⟩) ?_
          clear hK K
          try simp only [Act.put, List.setIfInBounds_toArray, List.set_cons_zero, List.set_cons_succ]
          refine wpAnyS_ready [16] (by kernel_rfl) (by simp) ?_
          refine AllReadyS.cons ⟨some 68, .call { callee := .builtin .append, args := #[.tmp 62, .tmp 67], argTypes := #[80, 80] }, 80, _, _, none⟩ rfl (fun K hK => ?_) AllReadyS.nil
          refine wp_append_if (.tmp 62) (.tmp 67) 80 (by rfl) rfl rfl rfl (HAPP.out _) ?_
          refine hK _ _ trivial (fun _ _ => ⟨HP.out _ HQ2.out, HSC.out _ HH2.out⟩) ?_
          clear hK K
          try simp only [Act.put, List.setIfInBounds_toArray, List.set_cons_zero, List.set_cons_succ]
          refine wpAnyS_ready [17] (by kernel_rfl) (by simp) ?_
          refine AllReadyS.cons ⟨some 69, .makeInterface 80 (.tmp 68), _, _, _, none⟩ rfl (fun K hK => ?_) AllReadyS.nil
          go_simp
          refine hK _ _ trivial (fun _ _ => ⟨HP.out _ HQ2.out, HSC.out _ HH2.out⟩) ?_
          clear hK K
          try simp only [Act.put, List.setIfInBounds_toArray, List.set_cons_zero, List.set_cons_succ]
          refine wpAnyS_rest 18 (fun _ => trivial) rfl (by kernel_rfl) (by kernel_rfl) ?_
          simp only [List.drop_succ_cons, List.drop_zero]
          go_wp2_with fail
          go_roundw
          case rel =>
            have hn := of_decide_eq_false HC.out.symm
            have hlen2 := HST.out.2.2.1.len
            have hz : cmpJ ((ordL ks ks).getD (k - 1) .null) ((ordL ks ks).getD k .null) = 0 := Classical.byContradiction fun e => hn (.inr e)
            have heq := cmpJ_zero _ _ (getD_ok (ordL_ok HS.out.2.2) (k - 1)) (getD_ok (ordL_ok HS.out.2.2) k) hz
            refine ⟨k + 1, vs.set m' v3, gr, by go_num, hlt, HQ3.out, rfl, by rw [List.length_set, List.map_set]; exact HO3.out.1, ?_, fun _ => by rw [Nat.add_sub_cancel, ← heq]; exact HST.out.2.2.2 (by omega)⟩
            simp only [grpN]
            rw [if_neg hn]
            unfold addLast
            have hgl : (grpN (ordL l ks) (ordL ks ks) k).length - 1 = m' := by have := HM.out; omega
            rw [hgl]
            exact HO3.out.2
          case measure => simp [Go.RowKit.intOf]; omega
        · obtain ⟨cx1, cx2⟩ := hcx
          have HQ0 := Lib.hid HWX.out.drew
          have hdr := (Below.refl wc.heap.size wc).drew
          have hal := (below1 wc.drew (.cells #[(.iface tg vg)] 20))
          have hs1 := size_alloc wc.drew (.cells #[(.iface tg vg)] 20)
          have hdz : wc.drew.heap.size = wc.heap.size := rfl
          have hownc := ownsRow_below (ownsRow_below HST.out.2.1 HBX.out) hdr
          have hownA := ownsRow_below (ownsRow_below HST.out.2.1 HBX.out) (hdr.trans hal)
          have hlastA := ownsRow_below (ownsRow_below hyo HBX.out) (hdr.trans hal)
          have hn1 := heap_alloc_new wc.drew (.cells #[(.iface tg vg)] 20)
          have hnew : (wc.drew.alloc (.cells #[(.iface tg vg)] 20)).cell? ⟨wc.heap.size, 0, none⟩ = some (.iface tg vg) := by
            unfold World.cell?
            show (match (wc.drew.alloc (.cells #[(.iface tg vg)] 20)).heap[wc.drew.heap.size]? with | some (.cells c elem frozen) => c[0]? | x => none) = _
            rw [hn1]
            rfl
          obtain ⟨v3, w3, happ, hown3, hgr3, hne3⟩ := append_one _ w1.heap.size _ ys.length _ hlastA wc.heap.size (.iface tg vg) 1 hnew rfl (by omega) (by have := HWX.out.size; omega)
          have hblk := append_blk hlastA (g0 := bl) rfl hnew rfl (by omega) (happ 0)
          rw [hs1, hdz] at hblk
          have HQ1 := Lib.hid (HWX.out.trans ((hdr.trans hal).mono HWX.out.size))
          have hQ2 := HQ1.out.trans (grown_below hgr3 HQ1.out.size (ownBlock_base hlastA))
          have HQ2 := Lib.hid hQ2
          have hrs3 : w3.heap[gr]? = wr.heap[gr]? := (hgr3.block gr (by omega) (by simp [Value.ownBlock]; omega)).trans ((hal.block gr (by omega)).trans ((hdr.block gr (by omega)).trans (HBX.out.block gr hgr1)))
          have hrow3 := ownsRow_block HST.out.2.1 (w' := w3) (b := gr) rfl hrs3
          have hat3 := ownsRow_at hrow3 (i := m') (by simp; omega)
          have hset := ownsRow_set (x := .iface 80 v3) hrow3 (i := m') (by omega)
          obtain ⟨b', hb', hbc⟩ : ∃ b', v3.ownBlock = some b' ∧ (b' = bl ∨ b' = wc.heap.size + 1) := by
            rcases hblk with e | e
            · exact ⟨_, e, .inl rfl⟩
            · exact ⟨_, e, .inr rfl⟩
          have hbgr : b' ≠ gr := by rcases hbc with e | e <;> omega
          have hsetne : ∀ b, b ≠ gr → (w3.setCell ⟨gr, m', none⟩ (.iface 80 v3)).heap[b]? = w3.heap[b]? := fun b hb => Below.heap_setCell _ _ _ _ hb
          have hown4 := ownsRow_block hown3 hb' (hsetne b' hbgr)
          have hg4 := HST.out.2.2.1.last (w' := w3.setCell ⟨gr, m', none⟩ (.iface 80 v3)) (i := m') (by omega) (v' := v3) (b' := b') (ys := ys ++ [(.iface tg vg)]) (g := (grpN (ordL l ks) (ordL ks ks) k).getD m' [] ++ [(ordL l ks).getD k .null]) hb' hbgr (by rw [List.length_append, List.length_singleton]; exact hown4) (hyr.snoc HREP.out.1) (fun b hb hne1 hne2 => by
              rw [hvl] at hne1
              exact (hsetne b hne2).trans ((hgr3.block b (by omega) hne1).trans ((hal.block b (by omega)).trans ((hdr.block b (by omega)).trans (HBX.out.block b hb))))) (by
              rw [hvl]
              rcases hbc with e | e
              · left; simp [Value.ownBlock, e]
              · right; omega)
          have hcell : wc.drew.cell? ⟨gr, m', none⟩ = some (.iface 80 (.slice (some ⟨bl, 0, none⟩) ys.length capl)) := by
            have h := (ownsRow_at hownc (i := m') (by simp; omega)).1
            rw [h]
            simp [hvl]
          have HSC : Hid (∀ wx : World, wx.heap[gr]? = wr.heap[gr]? → wx.cell? ⟨gr, m', none⟩ = some (.iface 80 (.slice (some ⟨bl, 0, none⟩) ys.length capl))) := Lib.hid fun wx hx => by
            have h := (ownsRow_at (ownsRow_block HST.out.2.1 (w' := wx) (b := gr) rfl hx) (i := m') (by simp; omega)).1
            rw [h]
            simp [hvl]
          have HH0 : Hid (wc.drew.heap[gr]? = wr.heap[gr]?) := Lib.hid ((hdr.block gr (by omega)).trans (HBX.out.block gr hgr1))
          have HH1 : Hid ((wc.drew.alloc (.cells #[(.iface tg vg)] 20)).heap[gr]? = wr.heap[gr]?) := Lib.hid ((hal.block gr (by omega)).trans HH0.out)
          have HH2 := Lib.hid hrs3
          have hcs3 : w3.cell? ⟨gr, m', none⟩ = some (.iface 80 (.slice (some ⟨bl, 0, none⟩) ys.length capl)) := HSC.out w3 hrs3
          have hcf3 := hat3.2
          have HQ3 := Lib.hid (HQ2.out.setCell (p := ⟨gr, m', none⟩) hgr2 (.iface 80 v3))
          have HO3 := Lib.hid (And.intro hset hg4)
          have HAPP := Lib.hid happ
          have hi1 : ((vs.length : Nat) : Int) - 1 = (m' : Int) := by omega
          have hi2 : (m' : Int) < (vs.length : Int) := by omega
          have hi3 : (0 : Int) ≤ (m' : Int) := by omega
          have hwm : Go.IntKind.wrap .i64 (m' : Int) = (m' : Int) := by rw [IntKind.wrap_i64]; omega
          clear hownc hownA hlastA hn1 hnew hown3 hgr3 happ hblk hrs3 hrow3 hset hb' hbc hbgr hsetne hown4 hg4 hat3 hal hdr hs1 hdz hQ2 hcell hne3
          have HYO := Lib.hid (And.intro hyo hyr)
          clear hyo hyr
          have HM := Lib.hid hm'
          clear hvl hm'
          go_upto_region 11 with fail
          refine wp_region_S (fun i => decide (18 ≤ i)) (fun w4 => (w4.cell? ⟨p, 0, none⟩ = some (.iface tg vg) ∧ w4.cell? ⟨p, 1, none⟩ = some gk) ∧ w4.cell? ⟨gr, m', none⟩ = some (.iface 80 (.slice (some ⟨bl, 0, none⟩) ys.length capl))) (fun _ => True) (by kernel_rfl) ?_
          refine wpAnyS_takeU 0 ⟨some 52, .move (.tmp 7), 80, _, _, none⟩ (v := ?_) rfl (by kernel_rfl) (by kernel_rfl) (by kernel_rfl) (by kernel_rfl) (by kernel_rfl) (fun _ _ _ h => h) (Or.inl ⟨by rfl, ?_⟩) ⟨trivial, ⟨HP.out _ HQ0.out, HSC.out _ HH0.out⟩⟩ ?_
          rotate_left
          · (intro x hx; clear hx; go_simp; try with_reducible rfl)
          try simp only [Act.put, List.setIfInBounds_toArray, List.set_cons_zero, List.set_cons_succ]
          refine wpAnyS_takeU 1 ⟨some 53, .move (.tmp 7), 80, _, _, none⟩ (v := ?_) rfl (by kernel_rfl) (by kernel_rfl) (by kernel_rfl) (by kernel_rfl) (by kernel_rfl) (fun _ _ _ h => h) (Or.inl ⟨by rfl, ?_⟩) ⟨trivial, ⟨HP.out _ HQ0.out, HSC.out _ HH0.out⟩⟩ ?_
          rotate_left
          · (intro x hx; clear hx; go_simp; try with_reducible rfl)
          try simp only [Act.put, List.setIfInBounds_toArray, List.set_cons_zero, List.set_cons_succ]
          refine wpAnyS_takeU 2 ⟨some 54, .call { callee := .builtin .len, args := #[.tmp 53], argTypes := #[80] }, 3, _, _, none⟩ (v := ?_) rfl (by kernel_rfl) (by kernel_rfl) (by kernel_rfl) (by kernel_rfl) (by kernel_rfl) (fun _ _ _ h => h) (Or.inl ⟨by rfl, ?_⟩) ⟨trivial, ⟨HP.out _ HQ0.out, HSC.out _ HH0.out⟩⟩ ?_
          rotate_left
          · (intro x hx; clear hx; go_simp; try with_reducible rfl)
          try simp only [Act.put, List.setIfInBounds_toArray, List.set_cons_zero, List.set_cons_succ]
          refine wpAnyS_takeU 3 ⟨some 55, .binOp .sub 3 (.tmp 54) (.const (.int .i64 1)) 3, 3, _, _, none⟩ (v := ?_) rfl (by kernel_rfl) (by kernel_rfl) (by kernel_rfl) (by kernel_rfl) (by kernel_rfl) (fun _ _ _ h => h) (Or.inl ⟨by rfl, ?_⟩) ⟨trivial, ⟨HP.out _ HQ0.out, HSC.out _ HH0.out⟩⟩ ?_
          rotate_left
          · (intro x hx; clear hx; go_simp; try with_reducible rfl)
          try simp only [Act.put, List.setIfInBounds_toArray, List.set_cons_zero, List.set_cons_succ]
          refine wpAnyS_takeU 4 ⟨some 56, .move (.tmp 7), 80, _, _, none⟩ (v := ?_) rfl (by kernel_rfl) (by kernel_rfl) (by kernel_rfl) (by kernel_rfl) (by kernel_rfl) (fun _ _ _ h => h) (Or.inl ⟨by rfl, ?_⟩) ⟨trivial, ⟨HP.out _ HQ0.out, HSC.out _ HH0.out⟩⟩ ?_
          rotate_left
          · (intro x hx; clear hx; go_simp; try with_reducible rfl)
          try simp only [Act.put, List.setIfInBounds_toArray, List.set_cons_zero, List.set_cons_succ]
          refine wpAnyS_takeU 5 ⟨some 57, .move (.tmp 7), 80, _, _, none⟩ (v := ?_) rfl (by kernel_rfl) (by kernel_rfl) (by kernel_rfl) (by kernel_rfl) (by kernel_rfl) (fun _ _ _ h => h) (Or.inl ⟨by rfl, ?_⟩) ⟨trivial, ⟨HP.out _ HQ0.out, HSC.out _ HH0.out⟩⟩ ?_
          rotate_left
          · (intro x hx; clear hx; go_simp; try with_reducible rfl)
          try simp only [Act.put, List.setIfInBounds_toArray, List.set_cons_zero, List.set_cons_succ]
          refine wpAnyS_takeU 6 ⟨some 58, .call { callee := .builtin .len, args := #[.tmp 57], argTypes := #[80] }, 3, _, _, none⟩ (v := ?_) rfl (by kernel_rfl) (by kernel_rfl) (by kernel_rfl) (by kernel_rfl) (by kernel_rfl) (fun _ _ _ h => h) (Or.inl ⟨by rfl, ?_⟩) ⟨trivial, ⟨HP.out _ HQ0.out, HSC.out _ HH0.out⟩⟩ ?_
          rotate_left
          · (intro x hx; clear hx; go_simp; try with_reducible rfl)
          try simp only [Act.put, List.setIfInBounds_toArray, List.set_cons_zero, List.set_cons_succ]
          refine wpAnyS_takeU 7 ⟨some 59, .binOp .sub 3 (.tmp 58) (.const (.int .i64 1)) 3, 3, _, _, none⟩ (v := ?_) rfl (by kernel_rfl) (by kernel_rfl) (by kernel_rfl) (by kernel_rfl) (by kernel_rfl) (fun _ _ _ h => h) (Or.inl ⟨by rfl, ?_⟩) ⟨trivial, ⟨HP.out _ HQ0.out, HSC.out _ HH0.out⟩⟩ ?_
          rotate_left
          · (intro x hx; clear hx; go_simp; try with_reducible rfl)
          try simp only [Act.put, List.setIfInBounds_toArray, List.set_cons_zero, List.set_cons_succ]
          refine wpAnyS_takeU 8 ⟨some 60, .indexAddr 80 (.tmp 56) (.tmp 59), _, _, _, none⟩ (v := ?_) rfl (by kernel_rfl) (by kernel_rfl) (by kernel_rfl) (by kernel_rfl) (by kernel_rfl) (fun _ _ _ h => h) (Or.inl ⟨by rfl, ?_⟩) ⟨trivial, ⟨HP.out _ HQ0.out, HSC.out _ HH0.out⟩⟩ ?_
          rotate_left
          · (intro x hx; clear hx; go_simp; try with_reducible rfl)
          try simp only [Act.put, List.setIfInBounds_toArray, List.set_cons_zero, List.set_cons_succ]
          refine wpAnyS_takeU 9 ⟨some 61, .load 20 (.tmp 60), 20, _, _, none⟩ (v := ?_) rfl (by kernel_rfl) (by kernel_rfl) (by kernel_rfl) (by kernel_rfl) (by kernel_rfl) (fun _ _ _ h => h) (Or.inl ⟨by rfl, ?_⟩) ⟨trivial, ⟨HP.out _ HQ0.out, HSC.out _ HH0.out⟩⟩ ?_
          rotate_left
          · (intro x hx; obtain ⟨-, ⟨⟨s1, s2⟩, s3⟩⟩ := hx; go_simp; try with_reducible rfl)
          try simp only [Act.put, List.setIfInBounds_toArray, List.set_cons_zero, List.set_cons_succ]
          refine wpAnyS_takeU 10 ⟨some 62, .typeAssert (.tmp 61) 20 80 false, 80, _, _, none⟩ (v := ?_) rfl (by kernel_rfl) (by kernel_rfl) (by kernel_rfl) (by kernel_rfl) (by kernel_rfl) (fun _ _ _ h => h) (Or.inl ⟨by rfl, ?_⟩) ⟨trivial, ⟨HP.out _ HQ0.out, HSC.out _ HH0.out⟩⟩ ?_
          rotate_left
          · (intro x hx; clear hx; go_simp; try with_reducible rfl)
          try simp only [Act.put, List.setIfInBounds_toArray, List.set_cons_zero, List.set_cons_succ]
          refine wpAnyS_takeU 11 ⟨some 63, .move (.tmp 10), 136, _, _, none⟩ (v := ?_) rfl (by kernel_rfl) (by kernel_rfl) (by kernel_rfl) (by kernel_rfl) (by kernel_rfl) (fun _ _ _ h => h) (Or.inl ⟨by rfl, ?_⟩) ⟨trivial, ⟨HP.out _ HQ0.out, HSC.out _ HH0.out⟩⟩ ?_
          rotate_left
          · (intro x hx; clear hx; go_simp; try with_reducible rfl)
          try simp only [Act.put, List.setIfInBounds_toArray, List.set_cons_zero, List.set_cons_succ]
          refine wpAnyS_takeU 12 ⟨some 64, .nilCheck (.tmp 63), _, _, _, none⟩ (v := ?_) rfl (by kernel_rfl) (by kernel_rfl) (by kernel_rfl) (by kernel_rfl) (by kernel_rfl) (fun _ _ _ h => h) (Or.inl ⟨by rfl, ?_⟩) ⟨trivial, ⟨HP.out _ HQ0.out, HSC.out _ HH0.out⟩⟩ ?_
          rotate_left
          · (intro x hx; clear hx; go_simp; try with_reducible rfl)
          try simp only [Act.put, List.setIfInBounds_toArray, List.set_cons_zero, List.set_cons_succ]
          refine wpAnyS_takeU 13 ⟨some 65, .fieldAddr 139 (.tmp 64) 0, _, _, _, none⟩ (v := ?_) rfl (by kernel_rfl) (by kernel_rfl) (by kernel_rfl) (by kernel_rfl) (by kernel_rfl) (fun _ _ _ h => h) (Or.inl ⟨by rfl, ?_⟩) ⟨trivial, ⟨HP.out _ HQ0.out, HSC.out _ HH0.out⟩⟩ ?_
          rotate_left
          · (intro x hx; clear hx; go_simp; try with_reducible rfl)
          try simp only [Act.put, List.setIfInBounds_toArray, List.set_cons_zero, List.set_cons_succ]
          refine wpAnyS_takeU 14 ⟨some 66, .load 20 (.tmp 65), 20, _, _, none⟩ (v := ?_) rfl (by kernel_rfl) (by kernel_rfl) (by kernel_rfl) (by kernel_rfl) (by kernel_rfl) (fun _ _ _ h => h) (Or.inl ⟨by rfl, ?_⟩) ⟨trivial, ⟨HP.out _ HQ0.out, HSC.out _ HH0.out⟩⟩ ?_
          rotate_left
          · (intro x hx; obtain ⟨-, ⟨⟨s1, s2⟩, s3⟩⟩ := hx; go_simp; try with_reducible rfl)
          try simp only [Act.put, List.setIfInBounds_toArray, List.set_cons_zero, List.set_cons_succ]
          refine wpAnyS_ready [15] (by kernel_rfl) (by simp) ?_
          refine AllReadyS.cons ⟨some 67, .buildSlice 80 1 #[(0, .tmp 66)], _, _, _, none⟩ rfl (fun K hK => ?_) AllReadyS.nil
          go_simp
          refine hK _ _ trivial (fun _ _ => ⟨HP.out _ HQ1.out, HSC.out _ HH1.out⟩) ?_
          clear hK K
          try simp only [Act.put, List.setIfInBounds_toArray, List.set_cons_zero, List.set_cons_succ]
          refine wpAnyS_ready [16] (by kernel_rfl) (by simp) ?_
          refine AllReadyS.cons ⟨some 68, .call { callee := .builtin .append, args := #[.tmp 62, .tmp 67], argTypes := #[80, 80] }, 80, _, _, none⟩ rfl (fun K hK => ?_) AllReadyS.nil
          refine wp_append_if (.tmp 62) (.tmp 67) 80 (by rfl) rfl rfl rfl (HAPP.out _) ?_
          refine hK _ _ trivial (fun _ _ => ⟨HP.out _ HQ2.out, HSC.out _ HH2.out⟩) ?_
          clear hK K
          try simp only [Act.put, List.setIfInBounds_toArray, List.set_cons_zero, List.set_cons_succ]
          refine wpAnyS_ready [17] (by kernel_rfl) (by simp) ?_
          refine AllReadyS.cons ⟨some 69, .makeInterface 80 (.tmp 68), _, _, _, none⟩ rfl (fun K hK => ?_) AllReadyS.nil
          go_simp
          refine hK _ _ trivial (fun _ _ => ⟨HP.out _ HQ2.out, HSC.out _ HH2.out⟩) ?_
          clear hK K
          try simp only [Act.put, List.setIfInBounds_toArray, List.set_cons_zero, List.set_cons_succ]
          refine wpAnyS_rest 18 (fun _ => trivial) rfl (by kernel_rfl) (by kernel_rfl) ?_
          simp only [List.drop_succ_cons, List.drop_zero]
          go_wp2_with fail
          go_roundw
          case rel =>
            have hn := of_decide_eq_false HC.out.symm
            have hlen2 := HST.out.2.2.1.len
            have hz : cmpJ ((ordL ks ks).getD (k - 1) .null) ((ordL ks ks).getD k .null) = 0 := Classical.byContradiction fun e => hn (.inr e)
            have heq := cmpJ_zero _ _ (getD_ok (ordL_ok HS.out.2.2) (k - 1)) (getD_ok (ordL_ok HS.out.2.2) k) hz
            refine ⟨k + 1, vs.set m' v3, gr, by go_num, hlt, HQ3.out, rfl, by rw [List.length_set, List.map_set]; exact HO3.out.1, ?_, fun _ => by rw [Nat.add_sub_cancel, ← heq]; exact HST.out.2.2.2 (by omega)⟩
            simp only [grpN]
            rw [if_neg hn]
            unfold addLast
            have hgl : (grpN (ordL l ks) (ordL ks ks) k).length - 1 = m' := by have := HM.out; omega
            rw [hgl]
            exact HO3.out.2
          case measure => simp [Go.RowKit.intOf]; omega
      | true =>
        rcases hshape with rfl | ⟨tg, vg, rfl⟩
        · obtain ⟨cx1, cx2⟩ := hcx
          have HQ0 := Lib.hid HWX.out.drew
          have hdr := (Below.refl wc.heap.size wc).drew
          have hal := (below1 wc.drew (.cells #[.nilIface] 20))
          have hal2 := (below1 (wc.drew.alloc (.cells #[.nilIface] 20)) (.cells #[.iface 80 (.slice (some ⟨wc.heap.size, 0, none⟩) 1 1)] 20))
          have hs1 := size_alloc wc.drew (.cells #[.nilIface] 20)
          have hs2 := size_alloc (wc.drew.alloc (.cells #[.nilIface] 20)) (.cells #[.iface 80 (.slice (some ⟨wc.heap.size, 0, none⟩) 1 1)] 20)
          have hdz : wc.drew.heap.size = wc.heap.size := rfl
          have hown2 := ownsRow_below (ownsRow_below (ownsRow_below HST.out.2.1 HBX.out) (hdr.trans hal)) hal2
          have hn1 := heap_alloc_new wc.drew (.cells #[.nilIface] 20)
          have hn2 := heap_alloc_new (wc.drew.alloc (.cells #[.nilIface] 20)) (.cells #[.iface 80 (.slice (some ⟨wc.heap.size, 0, none⟩) 1 1)] 20)
          have hn1' := (hal2.block wc.heap.size (by omega)).trans hn1
          rw [hs1, hdz] at hn2
          have hnew : ((wc.drew.alloc (.cells #[.nilIface] 20)).alloc (.cells #[.iface 80 (.slice (some ⟨wc.heap.size, 0, none⟩) 1 1)] 20)).cell? ⟨wc.heap.size + 1, 0, none⟩ = some (.iface 80 (.slice (some ⟨wc.heap.size, 0, none⟩) 1 1)) := by
            unfold World.cell?
            rw [hn2]
            rfl
          obtain ⟨v3, w3, happ, hown3, hgr3, hne3⟩ := append_one _ w1.heap.size _ vs.length _ hown2 (wc.heap.size + 1) (.iface 80 (.slice (some ⟨wc.heap.size, 0, none⟩) 1 1)) 1 hnew rfl (by omega) (by have := HWX.out.size; omega)
          have hblk := append_blk hown2 (g0 := gr) rfl hnew rfl (by omega) (happ 0)
          have hbl1 := HWX.out.trans (hdr.mono HWX.out.size)
          have HQ1 := Lib.hid (HWX.out.trans ((hdr.trans hal).mono HWX.out.size))
          have HQB := Lib.hid (HQ1.out.trans (hal2.mono HQ1.out.size))
          have HQ2 := Lib.hid (HQB.out.trans (grown_below hgr3 HQB.out.size (ownBlock_base hown2)))
          have hkeep : ∀ b, b < wr.heap.size → b ≠ gr → w3.heap[b]? = wr.heap[b]? := fun b hb hne =>
            (hgr3.block b (by omega) (fun e => hne (by simpa [Value.ownBlock] using e))).trans ((hal2.block b (by omega)).trans ((hal.block b (by omega)).trans ((hdr.block b (by omega)).trans (HBX.out.block b hb))))
          obtain ⟨gr', hgr', hgrc⟩ : ∃ gr', v3.ownBlock = some gr' ∧ (gr' = gr ∨ gr' = wc.heap.size + 1 + 1) := by
            rcases hblk with e | e
            · exact ⟨_, e, .inl rfl⟩
            · rw [hs2, hs1, hdz] at e
              exact ⟨_, e, .inr rfl⟩
          have hgk2 : Grps w S w3 w1.heap.size gr' vs (grpN (ordL l ks) (ordL ks ks) k) := HST.out.2.2.1.keep hkeep (hgrc.elim .inl (fun e => .inr (by omega)))
          have hrow3 : w3.ownsRow w1.heap.size 20 1 (.slice (some ⟨wc.heap.size, 0, none⟩) 1 1) [(.nilIface : Value)].length [(.nilIface : Value)] := ⟨rfl, .inr ⟨wc.heap.size, 1, #[.nilIface], rfl, HWX.out.size, (hgr3.block wc.heap.size (by omega) (by simp [Value.ownBlock]; omega)).trans hn1', Nat.le_refl _, by simp only [maxLen]; omega, rfl, rfl⟩⟩
          have hg3 := hgk2.snoc (v := .slice (some ⟨wc.heap.size, 0, none⟩) 1 1) (b := wc.heap.size) (ys := [.nilIface]) (g := [(ordL l ks).getD k .null]) rfl (by rcases hgrc with e | e <;> omega) hrow3 ((RepL.nil w S).snoc HREP.out.1) (fun i hi e => by
            obtain ⟨ys', b', q1, q2, q3, q4⟩ := HST.out.2.2.1.each i hi
            have := ownsRow_lt q3 q1
            rw [q1] at e
            have := Option.some.inj e
            omega)
          have HO3 := Lib.hid (And.intro hown3 (And.intro hgr' hg3))
          have HAPP := Lib.hid happ
          clear hown2 hnew hown3 hgr3 hne3 happ hblk hkeep hgk2 hrow3 hg3 hn1 hn1' hn2 hal hal2 hdr hbl1 hgr' hgrc hs1 hs2 hdz
          go_upto_region 10 with fail
          refine wp_region_S (fun i => decide (14 ≤ i)) (fun w4 => w4.cell? ⟨p, 0, none⟩ = some .nilIface ∧ w4.cell? ⟨p, 1, none⟩ = some gk) (fun _ => True) (by kernel_rfl) ?_
          refine wpAnyS_takeU 0 ⟨some 39, .move (.tmp 7), 80, _, _, none⟩ (v := ?_) rfl (by kernel_rfl) (by kernel_rfl) (by kernel_rfl) (by kernel_rfl) (by kernel_rfl) (fun _ _ _ h => h) (Or.inl ⟨by rfl, ?_⟩) ⟨trivial, HP.out _ HQ0.out⟩ ?_
          rotate_left
          · (intro x hx; clear hx; go_simp; try with_reducible rfl)
          try simp only [Act.put, List.setIfInBounds_toArray, List.set_cons_zero, List.set_cons_succ]
          refine wpAnyS_takeU 1 ⟨some 40, .move (.tmp 10), 136, _, _, none⟩ (v := ?_) rfl (by kernel_rfl) (by kernel_rfl) (by kernel_rfl) (by kernel_rfl) (by kernel_rfl) (fun _ _ _ h => h) (Or.inl ⟨by rfl, ?_⟩) ⟨trivial, HP.out _ HQ0.out⟩ ?_
          rotate_left
          · (intro x hx; clear hx; go_simp; try with_reducible rfl)
          try simp only [Act.put, List.setIfInBounds_toArray, List.set_cons_zero, List.set_cons_succ]
          refine wpAnyS_takeU 2 ⟨some 41, .nilCheck (.tmp 40), _, _, _, none⟩ (v := ?_) rfl (by kernel_rfl) (by kernel_rfl) (by kernel_rfl) (by kernel_rfl) (by kernel_rfl) (fun _ _ _ h => h) (Or.inl ⟨by rfl, ?_⟩) ⟨trivial, HP.out _ HQ0.out⟩ ?_
          rotate_left
          · (intro x hx; clear hx; go_simp; try with_reducible rfl)
          try simp only [Act.put, List.setIfInBounds_toArray, List.set_cons_zero, List.set_cons_succ]
          refine wpAnyS_takeU 3 ⟨some 42, .fieldAddr 139 (.tmp 41) 0, _, _, _, none⟩ (v := ?_) rfl (by kernel_rfl) (by kernel_rfl) (by kernel_rfl) (by kernel_rfl) (by kernel_rfl) (fun _ _ _ h => h) (Or.inl ⟨by rfl, ?_⟩) ⟨trivial, HP.out _ HQ0.out⟩ ?_
          rotate_left
          · (intro x hx; clear hx; go_simp; try with_reducible rfl)
          try simp only [Act.put, List.setIfInBounds_toArray, List.set_cons_zero, List.set_cons_succ]
          refine wpAnyS_takeU 4 ⟨some 43, .load 20 (.tmp 42), 20, _, _, none⟩ (v := ?_) rfl (by kernel_rfl) (by kernel_rfl) (by kernel_rfl) (by kernel_rfl) (by kernel_rfl) (fun _ _ _ h => h) (Or.inl ⟨by rfl, ?_⟩) ⟨trivial, HP.out _ HQ0.out⟩ ?_
          rotate_left
          · (intro x hx; obtain ⟨-, ⟨s1, s2⟩⟩ := hx; go_simp; try with_reducible rfl)
          try simp only [Act.put, List.setIfInBounds_toArray, List.set_cons_zero, List.set_cons_succ]
          refine wpAnyS_takeU 9 ⟨some 48, .move (.tmp 10), 136, _, _, none⟩ (v := ?_) rfl (by kernel_rfl) (by kernel_rfl) (by kernel_rfl) (by kernel_rfl) (by kernel_rfl) (fun _ _ _ h => h) (Or.inl ⟨by rfl, ?_⟩) ⟨trivial, HP.out _ HQ0.out⟩ ?_
          rotate_left
          · (intro x hx; clear hx; go_simp; try with_reducible rfl)
          try simp only [Act.put, List.setIfInBounds_toArray, List.set_cons_zero, List.set_cons_succ]
          refine wpAnyS_takeU 10 ⟨some 49, .nilCheck (.tmp 48), _, _, _, none⟩ (v := ?_) rfl (by kernel_rfl) (by kernel_rfl) (by kernel_rfl) (by kernel_rfl) (by kernel_rfl) (fun _ _ _ h => h) (Or.inl ⟨by rfl, ?_⟩) ⟨trivial, HP.out _ HQ0.out⟩ ?_
          rotate_left
          · (intro x hx; clear hx; go_simp; try with_reducible rfl)
          try simp only [Act.put, List.setIfInBounds_toArray, List.set_cons_zero, List.set_cons_succ]
          refine wpAnyS_takeU 11 ⟨some 50, .fieldAddr 139 (.tmp 49) 1, _, _, _, none⟩ (v := ?_) rfl (by kernel_rfl) (by kernel_rfl) (by kernel_rfl) (by kernel_rfl) (by kernel_rfl) (fun _ _ _ h => h) (Or.inl ⟨by rfl, ?_⟩) ⟨trivial, HP.out _ HQ0.out⟩ ?_
          rotate_left
          · (intro x hx; clear hx; go_simp; try with_reducible rfl)
          try simp only [Act.put, List.setIfInBounds_toArray, List.set_cons_zero, List.set_cons_succ]
          refine wpAnyS_takeU 12 ⟨some 51, .load 20 (.tmp 50), 20, _, _, none⟩ (v := ?_) rfl (by kernel_rfl) (by kernel_rfl) (by kernel_rfl) (by kernel_rfl) (by kernel_rfl) (fun _ _ _ h => h) (Or.inl ⟨by rfl, ?_⟩) ⟨trivial, HP.out _ HQ0.out⟩ ?_
          rotate_left
          · (intro x hx; obtain ⟨-, ⟨s1, s2⟩⟩ := hx; go_simp; try with_reducible rfl)
          try simp only [Act.put, List.setIfInBounds_toArray, List.set_cons_zero, List.set_cons_succ]
          refine wpAnyS_ready [5] (by kernel_rfl) (by simp) ?_
          refine AllReadyS.cons ⟨some 44, .buildSlice 80 1 #[(0, .tmp 43)], _, _, _, none⟩ rfl (fun K hK => ?_) AllReadyS.nil
          go_simp
          refine hK _ _ trivial (fun _ _ => HP.out _ HQ1.out) ?_
          clear hK K
          try simp only [Act.put, List.setIfInBounds_toArray, List.set_cons_zero, List.set_cons_succ]
          refine wpAnyS_ready [6] (by kernel_rfl) (by simp) ?_
          refine AllReadyS.cons ⟨some 45, .makeInterface 80 (.tmp 44), _, _, _, none⟩ rfl (fun K hK => ?_) AllReadyS.nil
          go_simp
          refine hK _ _ trivial (fun _ _ => HP.out _ HQ1.out) ?_
          clear hK K
          try simp only [Act.put, List.setIfInBounds_toArray, List.set_cons_zero, List.set_cons_succ]
          refine wpAnyS_ready [7] (by kernel_rfl) (by simp) ?_
          refine AllReadyS.cons ⟨some 46, .buildSlice 80 1 #[(0, .tmp 45)], _, _, _, none⟩ rfl (fun K hK => ?_) AllReadyS.nil
          go_simp
          refine hK _ _ trivial (fun _ _ => HP.out _ HQB.out) ?_
          clear hK K
          try simp only [Act.put, List.setIfInBounds_toArray, List.set_cons_zero, List.set_cons_succ]
          refine wpAnyS_ready [8] (by kernel_rfl) (by simp) ?_
          refine AllReadyS.cons ⟨some 47, .call { callee := .builtin .append, args := #[.tmp 39, .tmp 46], argTypes := #[80, 80] }, 80, _, _, none⟩ rfl (fun K hK => ?_) AllReadyS.nil
          refine wp_append_if (.tmp 39) (.tmp 46) 80 (by rfl) rfl rfl rfl (HAPP.out _) ?_
          refine hK _ _ trivial (fun _ _ => HP.out _ HQ2.out) ?_
          clear hK K
          try simp only [Act.put, List.setIfInBounds_toArray, List.set_cons_zero, List.set_cons_succ]
          refine wpAnyS_ready [13] (by kernel_rfl) (by simp) ?_
          refine AllReadyS.cons ⟨some 7, .assign (.tmp 47), 80, _, _, none⟩ rfl (fun K hK => ?_) AllReadyS.nil
          go_simp
          refine hK _ _ trivial (fun _ _ => HP.out _ HQ2.out) ?_
          clear hK K
          try simp only [Act.put, List.setIfInBounds_toArray, List.set_cons_zero, List.set_cons_succ]
          refine wpAnyS_rest 14 (fun _ => trivial) rfl (by kernel_rfl) (by kernel_rfl) ?_
          simp only [List.drop_succ_cons, List.drop_zero]
          go_wp2_with fail
          go_roundw
          case rel =>
            have hn := of_decide_eq_true HC.out.symm
            refine ⟨k + 1, vs ++ [.slice (some ⟨wc.heap.size, 0, none⟩) 1 1], gr', by go_num, hlt, HQ2.out, HO3.out.2.1, by rw [List.length_append, List.length_singleton, List.map_append]; exact HO3.out.1, ?_, fun _ => by rw [Nat.add_sub_cancel]; exact HREP.out.2⟩
            simp only [grpN]
            rw [if_pos hn]
            exact HO3.out.2.2
          case measure => simp [Go.RowKit.intOf]; omega
        · obtain ⟨cx1, cx2⟩ := hcx
          have HQ0 := Lib.hid HWX.out.drew
          have hdr := (Below.refl wc.heap.size wc).drew
          have hal := (below1 wc.drew (.cells #[(.iface tg vg)] 20))
          have hal2 := (below1 (wc.drew.alloc (.cells #[(.iface tg vg)] 20)) (.cells #[.iface 80 (.slice (some ⟨wc.heap.size, 0, none⟩) 1 1)] 20))
          have hs1 := size_alloc wc.drew (.cells #[(.iface tg vg)] 20)
          have hs2 := size_alloc (wc.drew.alloc (.cells #[(.iface tg vg)] 20)) (.cells #[.iface 80 (.slice (some ⟨wc.heap.size, 0, none⟩) 1 1)] 20)
          have hdz : wc.drew.heap.size = wc.heap.size := rfl
          have hown2 := ownsRow_below (ownsRow_below (ownsRow_below HST.out.2.1 HBX.out) (hdr.trans hal)) hal2
          have hn1 := heap_alloc_new wc.drew (.cells #[(.iface tg vg)] 20)
          have hn2 := heap_alloc_new (wc.drew.alloc (.cells #[(.iface tg vg)] 20)) (.cells #[.iface 80 (.slice (some ⟨wc.heap.size, 0, none⟩) 1 1)] 20)
          have hn1' := (hal2.block wc.heap.size (by omega)).trans hn1
          rw [hs1, hdz] at hn2
          have hnew : ((wc.drew.alloc (.cells #[(.iface tg vg)] 20)).alloc (.cells #[.iface 80 (.slice (some ⟨wc.heap.size, 0, none⟩) 1 1)] 20)).cell? ⟨wc.heap.size + 1, 0, none⟩ = some (.iface 80 (.slice (some ⟨wc.heap.size, 0, none⟩) 1 1)) := by
            unfold World.cell?
            rw [hn2]
            rfl
          obtain ⟨v3, w3, happ, hown3, hgr3, hne3⟩ := append_one _ w1.heap.size _ vs.length _ hown2 (wc.heap.size + 1) (.iface 80 (.slice (some ⟨wc.heap.size, 0, none⟩) 1 1)) 1 hnew rfl (by omega) (by have := HWX.out.size; omega)
          have hblk := append_blk hown2 (g0 := gr) rfl hnew rfl (by omega) (happ 0)
          have hbl1 := HWX.out.trans (hdr.mono HWX.out.size)
          have HQ1 := Lib.hid (HWX.out.trans ((hdr.trans hal).mono HWX.out.size))
          have HQB := Lib.hid (HQ1.out.trans (hal2.mono HQ1.out.size))
          have HQ2 := Lib.hid (HQB.out.trans (grown_below hgr3 HQB.out.size (ownBlock_base hown2)))
          have hkeep : ∀ b, b < wr.heap.size → b ≠ gr → w3.heap[b]? = wr.heap[b]? := fun b hb hne =>
            (hgr3.block b (by omega) (fun e => hne (by simpa [Value.ownBlock] using e))).trans ((hal2.block b (by omega)).trans ((hal.block b (by omega)).trans ((hdr.block b (by omega)).trans (HBX.out.block b hb))))
          obtain ⟨gr', hgr', hgrc⟩ : ∃ gr', v3.ownBlock = some gr' ∧ (gr' = gr ∨ gr' = wc.heap.size + 1 + 1) := by
            rcases hblk with e | e
            · exact ⟨_, e, .inl rfl⟩
            · rw [hs2, hs1, hdz] at e
              exact ⟨_, e, .inr rfl⟩
          have hgk2 : Grps w S w3 w1.heap.size gr' vs (grpN (ordL l ks) (ordL ks ks) k) := HST.out.2.2.1.keep hkeep (hgrc.elim .inl (fun e => .inr (by omega)))
          have hrow3 : w3.ownsRow w1.heap.size 20 1 (.slice (some ⟨wc.heap.size, 0, none⟩) 1 1) [((.iface tg vg) : Value)].length [((.iface tg vg) : Value)] := ⟨rfl, .inr ⟨wc.heap.size, 1, #[(.iface tg vg)], rfl, HWX.out.size, (hgr3.block wc.heap.size (by omega) (by simp [Value.ownBlock]; omega)).trans hn1', Nat.le_refl _, by simp only [maxLen]; omega, rfl, rfl⟩⟩
          have hg3 := hgk2.snoc (v := .slice (some ⟨wc.heap.size, 0, none⟩) 1 1) (b := wc.heap.size) (ys := [(.iface tg vg)]) (g := [(ordL l ks).getD k .null]) rfl (by rcases hgrc with e | e <;> omega) hrow3 ((RepL.nil w S).snoc HREP.out.1) (fun i hi e => by
            obtain ⟨ys', b', q1, q2, q3, q4⟩ := HST.out.2.2.1.each i hi
            have := ownsRow_lt q3 q1
            rw [q1] at e
            have := Option.some.inj e
            omega)
          have HO3 := Lib.hid (And.intro hown3 (And.intro hgr' hg3))
          have HAPP := Lib.hid happ
          clear hown2 hnew hown3 hgr3 hne3 happ hblk hkeep hgk2 hrow3 hg3 hn1 hn1' hn2 hal hal2 hdr hbl1 hgr' hgrc hs1 hs2 hdz
          go_upto_region 10 with fail
          refine wp_region_S (fun i => decide (14 ≤ i)) (fun w4 => w4.cell? ⟨p, 0, none⟩ = some (.iface tg vg) ∧ w4.cell? ⟨p, 1, none⟩ = some gk) (fun _ => True) (by kernel_rfl) ?_
          refine wpAnyS_takeU 0 ⟨some 39, .move (.tmp 7), 80, _, _, none⟩ (v := ?_) rfl (by kernel_rfl) (by kernel_rfl) (by kernel_rfl) (by kernel_rfl) (by kernel_rfl) (fun _ _ _ h => h) (Or.inl ⟨by rfl, ?_⟩) ⟨trivial, HP.out _ HQ0.out⟩ ?_
          rotate_left
          · (intro x hx; clear hx; go_simp; try with_reducible rfl)
          try simp only [Act.put, List.setIfInBounds_toArray, List.set_cons_zero, List.set_cons_succ]
          refine wpAnyS_takeU 1 ⟨some 40, .move (.tmp 10), 136, _, _, none⟩ (v := ?_) rfl (by kernel_rfl) (by kernel_rfl) (by kernel_rfl) (by kernel_rfl) (by kernel_rfl) (fun _ _ _ h => h) (Or.inl ⟨by rfl, ?_⟩) ⟨trivial, HP.out _ HQ0.out⟩ ?_
          rotate_left
          · (intro x hx; clear hx; go_simp; try with_reducible rfl)
          try simp only [Act.put, List.setIfInBounds_toArray, List.set_cons_zero, List.set_cons_succ]
          refine wpAnyS_takeU 2 ⟨some 41, .nilCheck (.tmp 40), _, _, _, none⟩ (v := ?_) rfl (by kernel_rfl) (by kernel_rfl) (by kernel_rfl) (by kernel_rfl) (by kernel_rfl) (fun _ _ _ h => h) (Or.inl ⟨by rfl, ?_⟩) ⟨trivial, HP.out _ HQ0.out⟩ ?_
          rotate_left
          · (intro x hx; clear hx; go_simp; try with_reducible rfl)
          try simp only [Act.put, List.setIfInBounds_toArray, List.set_cons_zero, List.set_cons_succ]
          refine wpAnyS_takeU 3 ⟨some 42, .fieldAddr 139 (.tmp 41) 0, _, _, _, none⟩ (v := ?_) rfl (by kernel_rfl) (by kernel_rfl) (by kernel_rfl) (by kernel_rfl) (by kernel_rfl) (fun _ _ _ h => h) (Or.inl ⟨by rfl, ?_⟩) ⟨trivial, HP.out _ HQ0.out⟩ ?_
          rotate_left
          · (intro x hx; clear hx; go_simp; try with_reducible rfl)
          try simp only [Act.put, List.setIfInBounds_toArray, List.set_cons_zero, List.set_cons_succ]
          refine wpAnyS_takeU 4 ⟨some 43, .load 20 (.tmp 42), 20, _, _, none⟩ (v := ?_) rfl (by kernel_rfl) (by kernel_rfl) (by kernel_rfl) (by kernel_rfl) (by kernel_rfl) (fun _ _ _ h => h) (Or.inl ⟨by rfl, ?_⟩) ⟨trivial, HP.out _ HQ0.out⟩ ?_
          rotate_left
          · (intro x hx; obtain ⟨-, ⟨s1, s2⟩⟩ := hx; go_simp; try with_reducible rfl)
          try simp only [Act.put, List.setIfInBounds_toArray, List.set_cons_zero, List.set_cons_succ]
          refine wpAnyS_takeU 9 ⟨some 48, .move (.tmp 10), 136, _, _, none⟩ (v := ?_) rfl (by kernel_rfl) (by kernel_rfl) (by kernel_rfl) (by kernel_rfl) (by kernel_rfl) (fun _ _ _ h => h) (Or.inl ⟨by rfl, ?_⟩) ⟨trivial, HP.out _ HQ0.out⟩ ?_
          rotate_left
          · (intro x hx; clear hx; go_simp; try with_reducible rfl)
          try simp only [Act.put, List.setIfInBounds_toArray, List.set_cons_zero, List.set_cons_succ]
          refine wpAnyS_takeU 10 ⟨some 49, .nilCheck (.tmp 48), _, _, _, none⟩ (v := ?_) rfl (by kernel_rfl) (by kernel_rfl) (by kernel_rfl) (by kernel_rfl) (by kernel_rfl) (fun _ _ _ h => h) (Or.inl ⟨by rfl, ?_⟩) ⟨trivial, HP.out _ HQ0.out⟩ ?_
          rotate_left
          · (intro x hx; clear hx; go_simp; try with_reducible rfl)
          try simp only [Act.put, List.setIfInBounds_toArray, List.set_cons_zero, List.set_cons_succ]
          refine wpAnyS_takeU 11 ⟨some 50, .fieldAddr 139 (.tmp 49) 1, _, _, _, none⟩ (v := ?_) rfl (by kernel_rfl) (by kernel_rfl) (by kernel_rfl) (by kernel_rfl) (by kernel_rfl) (fun _ _ _ h => h) (Or.inl ⟨by rfl, ?_⟩) ⟨trivial, HP.out _ HQ0.out⟩ ?_
          rotate_left
          · (intro x hx; clear hx; go_simp; try with_reducible rfl)
          try simp only [Act.put, List.setIfInBounds_toArray, List.set_cons_zero, List.set_cons_succ]
          refine wpAnyS_takeU 12 ⟨some 51, .load 20 (.tmp 50), 20, _, _, none⟩ (v := ?_) rfl (by kernel_rfl) (by kernel_rfl) (by kernel_rfl) (by kernel_rfl) (by kernel_rfl) (fun _ _ _ h => h) (Or.inl ⟨by rfl, ?_⟩) ⟨trivial, HP.out _ HQ0.out⟩ ?_
          rotate_left
          · (intro x hx; obtain ⟨-, ⟨s1, s2⟩⟩ := hx; go_simp; try with_reducible rfl)
          try simp only [Act.put, List.setIfInBounds_toArray, List.set_cons_zero, List.set_cons_succ]
          refine wpAnyS_ready [5] (by kernel_rfl) (by simp) ?_
          refine AllReadyS.cons ⟨some 44, .buildSlice 80 1 #[(0, .tmp 43)], _, _, _, none⟩ rfl (fun K hK => ?_) AllReadyS.nil
          go_simp
          refine hK _ _ trivial (fun _ _ => HP.out _ HQ1.out) ?_
          clear hK K
          try simp only [Act.put, List.setIfInBounds_toArray, List.set_cons_zero, List.set_cons_succ]
          refine wpAnyS_ready [6] (by kernel_rfl) (by simp) ?_
          refine AllReadyS.cons ⟨some 45, .makeInterface 80 (.tmp 44), _, _, _, none⟩ rfl (fun K hK => ?_) AllReadyS.nil
          go_simp
          refine hK _ _ trivial (fun _ _ => HP.out _ HQ1.out) ?_
          clear hK K
          try simp only [Act.put, List.setIfInBounds_toArray, List.set_cons_zero, List.set_cons_succ]
          refine wpAnyS_ready [7] (by kernel_rfl) (by simp) ?_
          refine AllReadyS.cons ⟨some 46, .buildSlice 80 1 #[(0, .tmp 45)], _, _, _, none⟩ rfl (fun K hK => ?_) AllReadyS.nil
          go_simp
          refine hK _ _ trivial (fun _ _ => HP.out _ HQB.out) ?_
          clear hK K
          try simp only [Act.put, List.setIfInBounds_toArray, List.set_cons_zero, List.set_cons_succ]
          refine wpAnyS_ready [8] (by kernel_rfl) (by simp) ?_
          refine AllReadyS.cons ⟨some 47, .call { callee := .builtin .append, args := #[.tmp 39, .tmp 46], argTypes := #[80, 80] }, 80, _, _, none⟩ rfl (fun K hK => ?_) AllReadyS.nil
          refine wp_append_if (.tmp 39) (.tmp 46) 80 (by rfl) rfl rfl rfl (HAPP.out _) ?_
          refine hK _ _ trivial (fun _ _ => HP.out _ HQ2.out) ?_
          clear hK K
          try simp only [Act.put, List.setIfInBounds_toArray, List.set_cons_zero, List.set_cons_succ]
          refine wpAnyS_ready [13] (by kernel_rfl) (by simp) ?_
          refine AllReadyS.cons ⟨some 7, .assign (.tmp 47), 80, _, _, none⟩ rfl (fun K hK => ?_) AllReadyS.nil
          go_simp
          refine hK _ _ trivial (fun _ _ => HP.out _ HQ2.out) ?_
          clear hK K
          try simp only [Act.put, List.setIfInBounds_toArray, List.set_cons_zero, List.set_cons_succ]
          refine wpAnyS_rest 14 (fun _ => trivial) rfl (by kernel_rfl) (by kernel_rfl) ?_
          simp only [List.drop_succ_cons, List.drop_zero]
          go_wp2_with fail
          go_roundw
          case rel =>
            have hn := of_decide_eq_true HC.out.symm
            refine ⟨k + 1, vs ++ [.slice (some ⟨wc.heap.size, 0, none⟩) 1 1], gr', by go_num, hlt, HQ2.out, HO3.out.2.1, by rw [List.length_append, List.length_singleton, List.map_append]; exact HO3.out.1, ?_, fun _ => by rw [Nat.add_sub_cancel]; exact HREP.out.2⟩
            simp only [grpN]
            rw [if_pos hn]
            exact HO3.out.2.2
          case measure => simp [Go.RowKit.intOf]; omega
    · have hik : ¬ (k : Int) < l.length := by omega
      obtain rfl : k = l.length := by omega
      have HN := Lib.hid (And.intro hbw (And.intro hown hgrp))
      clear hbw hown hgrp hlast hob
      go_wp2_with fail
      refine bodyPost_ret (v := .iface 80 (.slice (some ⟨gr, 0, none⟩) vs.length cap)) (by simp [results, Tryz.results81, go_sem]) rfl ?_
      obtain ⟨g1, g2, g3⟩ := HN.out
      have hb := HB1.out.trans (g1.mono (by omega))
      have hea := grpN_each (ordL l ks) (ordL ks ks) (ordL_ok HOL.out) l.length
      refine ⟨_, rfl, hb, g3.rep rfl g2 hb HS.out.1, sz_of_ok _ ⟨by rw [List.length_map]; exact Nat.le_trans (grpN_length _ _ _) (by unfold lim; omega), (oks_iff _).2 fun x hx => ?_⟩⟩
      obtain ⟨g, hg, rfl⟩ := List.mem_map.1 hx
      have := hea g hg
      exact ⟨by have := this.1; unfold lim; omega, (oks_iff _).2 this.2⟩
end Go.Gj
