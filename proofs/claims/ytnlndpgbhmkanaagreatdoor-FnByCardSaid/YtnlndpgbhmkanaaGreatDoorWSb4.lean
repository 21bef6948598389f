/-
  gojq.minMaxBy.
-/
import Derived.Test.YtnlndpgbhmkanaaGreatDoorWCp10
import Derived.Test.YtnlndpgbhmkanaaGreatDoorPlX
import Derived.Test.YtnlndpgbhmkanaaGreatDoorAnsL
import Derived.Test.YtnlndpgbhmkanaaGreatDoorWSb5
namespace Go.Gj
set_option linter.unusedSimpArgs false
set_option linter.unusedVariables false
set_option linter.unnecessarySimpa false
open Go Go.RowKit Go.Proofs

set_option maxHeartbeats 1000000 in
set_option maxRecDepth 100000 in
theorem minMax_ok (isMin : Bool) (l ks : List J) (hokl : ∀ x ∈ l, x.ok) (hlk : ks.length = l.length) (hlen : l.length ≤ lim) (hok : ∀ k ∈ ks, k.ok) (w : World) (S : Nat → Prop) (hS : ∀ b, S b → b < w.heap.size) (gl gg : Value) (h1 : ARep w S (.arr l) (.iface 80 gl)) (h2 : ARep w S (.arr ks) (.iface 80 gg)) :
    Calls Tryz.prog 111 #[gl, gg, .bool isMin] w (AnyGives w (some (if l.length = 0 then .null else l.getD (mmN ks isMin l.length) .null))) := by
  obtain ⟨b1, o1, c1, he1, hc1, hb1, ha1⟩ := h1
  obtain ⟨b2, o2, c2, he2, hc2, hb2, ha2⟩ := h2
  obtain rfl : gl = .slice (some ⟨b1, o1, none⟩) l.length c1 := by simpa using he1
  obtain rfl : gg = .slice (some ⟨b2, o2, none⟩) ks.length c2 := by simpa using he2
  unfold lim at hlen
  have HLK := Lib.hid hlk
  have hle1 : ks.length ≤ l.length := by omega
  have hle2 : l.length ≤ ks.length := by omega
  clear hlk
  have HBX := Lib.hid (And.intro (hS _ hb1) (hS _ hb2))
  have HA := Lib.hid (And.intro ha1 ha2)
  have HS := Lib.hid (And.intro hS (And.intro hok hokl))
  have HB0 := Lib.hid (Below.refl w.heap.size w)
  clear he1 he2 ha1 ha2 hb1 hb2 hS hok hokl hc1 hc2
  by_cases h0 : l.length = 0
  · have hb0 : ((l.length : Int) == 0) = true := by rw [beq_iff_eq]; omega
    have hres : (if l.length = 0 then J.null else l.getD (mmN ks isMin l.length) .null) = .null := if_pos h0
    rw [hres]
    clear hres h0
    go_enter Tryz.func111, Tryz.ntmps111
    go_wp2_with fail
    exact bodyPost_ret (v := .nilIface) (by simp [results, Tryz.results111, go_sem]) rfl ⟨_, rfl, HB0.out, rfl, trivial⟩
  · have hb0 : ((l.length : Int) == 0) = false := by rw [beq_eq_false_iff_ne]; omega
    have hres : (if l.length = 0 then J.null else l.getD (mmN ks isMin l.length) .null) = l.getD (mmN ks isMin l.length) .null := if_neg h0
    rw [hres]
    clear hres
    have hl0 : 0 < l.length := by omega
    have hk0 : 0 < ks.length := by omega
    have hki : (0 : Int) < ks.length := by omega
    obtain ⟨x0, hx0, hr0⟩ := ACells.at ks o2 0 hk0 HA.out.2
    rw [Nat.add_zero] at hx0
    have HR0 := Lib.hid hr0
    clear hr0
    go_enter Tryz.func111, Tryz.ntmps111
    go_upto_region 3 with fail
    go_cut [7, 8, 9] (fun v7 v8 v9 wx => v7 = .int .i64 0 ∧ v8 = .int .i64 0 ∧ v9 = x0 ∧ Below w.heap.size w wx)
    case first =>
      have hxd : w.drew.cell? ⟨b2, o2, none⟩ = some x0 := hx0
      go_region_held3 (fun w2 => w2.cell? ⟨b2, o2, none⟩ = some x0)
        (exact hxd)
        (fail)
      all_goals (go_wp2_with fail; go_meet; exact ⟨rfl, rfl, rfl, HB0.out.drew⟩)
    obtain ⟨rfl, rfl, rfl, hbw⟩ := hcut
    have HBW := Lib.hid hbw
    clear hbw hx0
    go_wp2_with fail
    go_loopw [7, 8, 9] (fun v7 v8 v9 wr => ∃ i : Nat, v7 = .int .i64 i ∧ 1 ≤ i ∧ i ≤ ks.length ∧ v8 = .int .i64 (mmN ks isMin i) ∧ ARep w S (ks.getD (mmN ks isMin i) .null) v9 ∧ Below w.heap.size w wr) (fun v7 _ _ _ => ks.length - (Go.RowKit.intOf v7).toNat)
    case atStart => exact ⟨1, rfl, Nat.le_refl _, hk0, rfl, by rw [show mmN ks isMin 1 = 0 from rfl, List.getD_eq_getElem?_getD, List.getElem?_eq_getElem hk0]; exact HR0.out, HBW.out⟩
    case round =>
      obtain ⟨i, rfl, hi1, hin, rfl, hr9, hbel⟩ := hrel
      have HBE := Lib.hid hbel
      by_cases hlt : i < ks.length
      · have hik : (i : Int) < ks.length := by omega
        obtain ⟨g, hg, hrg⟩ := ACells.at ks o2 i hlt HA.out.2
        rw [← hbel.cell HBX.out.2] at hg
        have hki2 : ks[i] = ks.getD i .null := by rw [List.getD_eq_getElem?_getD, List.getElem?_eq_getElem hlt]; rfl
        rw [hki2] at hrg
        have hbw := hbel
        have HC := Lib.hid (Compare_ok _ _ (getD_ok HS.out.2.1 (mmN ks isMin i)) (getD_ok HS.out.2.1 i) wr S u9 g (lt_below hbw HS.out.1) (hr9.keep (.of_below hbw HS.out.1) (fun _ h => h)) (hrg.keep (.of_below hbw HS.out.1) (fun _ h => h)))
        have hmm : mmN ks isMin (i + 1) = if decide (cmpJ (ks.getD (mmN ks isMin i) .null) (ks.getD i .null) > 0) = isMin then i else mmN ks isMin i := by
          rw [mmN]
          rw [if_neg (by omega)]
        have HMM := Lib.hid hmm
        have HR9 := Lib.hid (And.intro hr9 hrg)
        generalize cmpJ (ks.getD (mmN ks isMin i) .null) (ks.getD i .null) = dd at HC HMM
        have hgd : ∀ wx, Below wr.heap.size wr wx → wx.cell? ⟨b2, o2 + i, none⟩ = some g := fun wx hx => (hx.cell (Nat.lt_of_lt_of_le HBX.out.2 hbw.size)).trans hg
        have HGD := Lib.hid hgd
        clear hbw hbel hr9 hrg hmm hki2 hgd
        obtain ⟨bb, hbb⟩ : ∃ bb, bb = (decide (dd > 0) == isMin) := ⟨_, rfl⟩
        have HBB := Lib.hid hbb
        go_upto_region 7 with fail
        go_cut [32] (fun v wx => v = .bool bb ∧ Below wr.heap.size wr wx)
        case first =>
          clear hbb
          go_wp2_with (go_at_call 109; refine HC.out.mono ?_; rintro e wx ⟨rfl, hx⟩; have HX := Lib.hid hx; clear hx)
          go_meet
          exact ⟨by rw [HBB.out], HX.out⟩
        obtain ⟨rfl, hbx⟩ := hcut
        have HBX2 := Lib.hid (HBE.out.trans (hbx.mono HBE.out.size))
        have hgx := HGD.out _ hbx
        clear hbx hbb
        cases bb with
        | false =>
          have hne : ¬ (decide (dd > 0) = isMin) := fun h => by
            have := HBB.out
            rw [h] at this
            simp at this
          have HM2 := Lib.hid (HMM.out.trans (if_neg hne))
          clear hne
          go_wp2_with fail
          go_roundw
          case rel => exact ⟨i + 1, by go_num, by omega, hlt, by rw [HM2.out], by rw [HM2.out]; exact HR9.out.1, HBX2.out⟩
          case measure => simp [Go.RowKit.intOf]; omega
        | true =>
          have heq : decide (dd > 0) = isMin := by
            have := HBB.out.symm
            simpa using this
          have HM2 := Lib.hid (HMM.out.trans (if_pos heq))
          clear heq
          go_upto_region 8 with fail
          have hgx2 : wc.drew.cell? ⟨b2, o2 + i, none⟩ = some g := hgx
          go_region_held3 (fun w2 => w2.cell? ⟨b2, o2 + i, none⟩ = some g)
            (exact hgx2)
            (fail)
          all_goals
            go_wp2_with fail
            go_roundw
            case rel => exact ⟨i + 1, by go_num, by omega, hlt, by rw [HM2.out], by rw [HM2.out]; exact HR9.out.2, HBX2.out.drew⟩
            case measure => simp [Go.RowKit.intOf]; omega
      · have hik : ¬ (i : Int) < ks.length := by omega
        obtain rfl : i = ks.length := by omega
        have hj := mmN_lt ks isMin ks.length hk0
        obtain ⟨j, hje⟩ : ∃ j, j = mmN ks isMin ks.length := ⟨_, rfl⟩
        have hres : mmN ks isMin l.length = j := by rw [hje, HLK.out]
        have HRES := Lib.hid hres
        rw [← hje] at hj ⊢
        have HJE := Lib.hid hje
        clear hres hje
        have hjl : j < l.length := by omega
        have hjk : (j : Int) < l.length := by omega
        obtain ⟨g, hg, hrg⟩ := ACells.at l o1 j hjl HA.out.1
        rw [← hbel.cell HBX.out.1] at hg
        have HRG := Lib.hid hrg
        have hj0 : (0 : Int) ≤ (j : Int) := by omega
        clear hbel hrg hr9
        go_wp2_with fail
        refine bodyPost_ret (v := g) (by simp [results, Tryz.results111, go_sem]) rfl ⟨_, rfl, HBE.out, ?_⟩
        rw [HRES.out]
        have hgl : l[j]?.getD J.null = l[j] := by rw [List.getElem?_eq_getElem hjl]; rfl
        rw [hgl]
        exact ⟨HRG.out.keep (.of_below HBE.out HS.out.1) (lt_below HBE.out HS.out.1), sz_of_ok _ (HS.out.2.2 _ (List.getElem_mem hjl))⟩
end Go.Gj

/-
  gojq's sort_by, unique_by, min_by and max_by, down to their doors. (Printed by wip/gen_sb4.py.)
-/
namespace Go.Gj
set_option linter.unusedSimpArgs false
set_option linter.unusedVariables false
set_option linter.unnecessarySimpa false
open Go Go.RowKit Go.Proofs

set_option maxRecDepth 100000 in
theorem funcSortBy_ok (l ks : List J) (hokl : ∀ x ∈ l, x.ok) (hlk : ks.length = l.length) (hlen : l.length ≤ lim) (hok : ∀ k ∈ ks, k.ok) (w : World) (S : Nat → Prop) (hS : ∀ b, S b → b < w.heap.size) (gl gg : Value) (h1 : ARep w S (.arr l) gl) (h2 : ARep w S (.arr ks) gg) :
    Calls Tryz.prog 80 #[gl, gg] w (AnyGives w (some (.arr (ordL l ks)))) := by
  have H := Lib.hid (sortBy_ok ⟨#[115, 111, 114, 116, 95, 98, 121]⟩ l ks hokl hlk hlen hok w S hS gl gg h1 h2)
  clear h1 h2 hS hok hokl hlk hlen
  generalize (.arr (ordL l ks) : J) = rr at H ⊢
  go_enter Tryz.func80, Tryz.ntmps80
  go_wp2_with (go_at_call 107; refine H.out.mono ?_; rintro e w2 ⟨g, rfl, hb, ha⟩; have HB := Lib.hid (And.intro hb ha); clear hb ha)
  exact bodyPost_ret (v := g) (by simp [results, Tryz.results80, go_sem]) rfl ⟨g, rfl, HB.out.1, HB.out.2⟩

set_option maxRecDepth 100000 in
theorem ZzSortBy_ok (l ks : List J) (hokl : ∀ x ∈ l, x.ok) (hlk : ks.length = l.length) (hlen : l.length ≤ lim) (hok : ∀ k ∈ ks, k.ok) (w : World) (S : Nat → Prop) (hS : ∀ b, S b → b < w.heap.size) (gl gg : Value) (h1 : ARep w S (.arr l) gl) (h2 : ARep w S (.arr ks) gg) :
    Calls Tryz.prog 54 #[gl, gg] w (AnyGives w (some (.arr (ordL l ks)))) := by
  have H := Lib.hid (funcSortBy_ok l ks hokl hlk hlen hok w S hS gl gg h1 h2)
  clear h1 h2 hS hok hokl hlk hlen
  generalize (.arr (ordL l ks) : J) = rr at H ⊢
  go_enter Tryz.func54, Tryz.ntmps54
  go_wp2_with (go_at_call 80; refine H.out.mono ?_; rintro e w2 ⟨g, rfl, hb, ha⟩; have HB := Lib.hid (And.intro hb ha); clear hb ha)
  exact bodyPost_ret (v := g) (by simp [results, Tryz.results54, go_sem]) rfl ⟨g, rfl, HB.out.1, HB.out.2⟩

set_option maxRecDepth 100000 in
theorem funcUniqueBy_ok (l ks : List J) (hokl : ∀ x ∈ l, x.ok) (hlk : ks.length = l.length) (hlen : l.length ≤ lim) (hok : ∀ k ∈ ks, k.ok) (w : World) (S : Nat → Prop) (hS : ∀ b, S b → b < w.heap.size) (gl gg : Value) (h1 : ARep w S (.arr l) gl) (h2 : ARep w S (.arr ks) gg) :
    Calls Tryz.prog 82 #[gl, gg] w (AnyGives w (some (.arr (onceN (ordL l ks) (ordL ks ks) l.length)))) := by
  have H := Lib.hid (uniqueBy_ok ⟨#[117, 110, 105, 113, 117, 101, 95, 98, 121]⟩ l ks hokl hlk hlen hok w S hS gl gg h1 h2)
  clear h1 h2 hS hok hokl hlk hlen
  generalize (.arr (onceN (ordL l ks) (ordL ks ks) l.length) : J) = rr at H ⊢
  go_enter Tryz.func82, Tryz.ntmps82
  go_wp2_with (go_at_call 110; refine H.out.mono ?_; rintro e w2 ⟨g, rfl, hb, ha⟩; have HB := Lib.hid (And.intro hb ha); clear hb ha)
  exact bodyPost_ret (v := g) (by simp [results, Tryz.results82, go_sem]) rfl ⟨g, rfl, HB.out.1, HB.out.2⟩

set_option maxRecDepth 100000 in
theorem ZzUniqueBy_ok (l ks : List J) (hokl : ∀ x ∈ l, x.ok) (hlk : ks.length = l.length) (hlen : l.length ≤ lim) (hok : ∀ k ∈ ks, k.ok) (w : World) (S : Nat → Prop) (hS : ∀ b, S b → b < w.heap.size) (gl gg : Value) (h1 : ARep w S (.arr l) gl) (h2 : ARep w S (.arr ks) gg) :
    Calls Tryz.prog 56 #[gl, gg] w (AnyGives w (some (.arr (onceN (ordL l ks) (ordL ks ks) l.length)))) := by
  have H := Lib.hid (funcUniqueBy_ok l ks hokl hlk hlen hok w S hS gl gg h1 h2)
  clear h1 h2 hS hok hokl hlk hlen
  generalize (.arr (onceN (ordL l ks) (ordL ks ks) l.length) : J) = rr at H ⊢
  go_enter Tryz.func56, Tryz.ntmps56
  go_wp2_with (go_at_call 82; refine H.out.mono ?_; rintro e w2 ⟨g, rfl, hb, ha⟩; have HB := Lib.hid (And.intro hb ha); clear hb ha)
  exact bodyPost_ret (v := g) (by simp [results, Tryz.results56, go_sem]) rfl ⟨g, rfl, HB.out.1, HB.out.2⟩

set_option maxRecDepth 100000 in
theorem funcMinBy_ok (l ks : List J) (hokl : ∀ x ∈ l, x.ok) (hlk : ks.length = l.length) (hlen : l.length ≤ lim) (hok : ∀ k ∈ ks, k.ok) (w : World) (S : Nat → Prop) (hS : ∀ b, S b → b < w.heap.size) (gl gg : Value) (h1 : ARep w S (.arr l) gl) (h2 : ARep w S (.arr ks) gg) :
    Calls Tryz.prog 83 #[gl, gg] w (AnyGives w (some (if l.length = 0 then .null else l.getD (mmN ks true l.length) .null))) := by
  have h1' := h1
  have h2' := h2
  obtain ⟨b1, o1, c1, rfl, _⟩ := h1'
  obtain ⟨b2, o2, c2, rfl, _⟩ := h2'
  have H := Lib.hid (minMax_ok true l ks hokl hlk hlen hok w S hS _ _ h1 h2)
  have hne : ((l.length : Int) != ks.length) = false := by rw [hlk]; simp
  clear h1 h2 hS hok hokl hlk hlen
  generalize (if l.length = 0 then .null else l.getD (mmN ks true l.length) .null) = rr at H ⊢
  go_enter Tryz.func83, Tryz.ntmps83
  go_wp2_with (go_at_call 111; refine H.out.mono ?_; rintro e w2 ⟨g, rfl, hb, ha⟩; have HB := Lib.hid (And.intro hb ha); clear hb ha)
  exact bodyPost_ret (v := g) (by simp [results, Tryz.results83, go_sem]) rfl ⟨g, rfl, HB.out.1, HB.out.2⟩

set_option maxRecDepth 100000 in
theorem ZzMinBy_ok (l ks : List J) (hokl : ∀ x ∈ l, x.ok) (hlk : ks.length = l.length) (hlen : l.length ≤ lim) (hok : ∀ k ∈ ks, k.ok) (w : World) (S : Nat → Prop) (hS : ∀ b, S b → b < w.heap.size) (gl gg : Value) (h1 : ARep w S (.arr l) gl) (h2 : ARep w S (.arr ks) gg) :
    Calls Tryz.prog 57 #[gl, gg] w (AnyGives w (some (if l.length = 0 then .null else l.getD (mmN ks true l.length) .null))) := by
  have H := Lib.hid (funcMinBy_ok l ks hokl hlk hlen hok w S hS gl gg h1 h2)
  clear h1 h2 hS hok hokl hlk hlen
  generalize (if l.length = 0 then .null else l.getD (mmN ks true l.length) .null) = rr at H ⊢
  go_enter Tryz.func57, Tryz.ntmps57
  go_wp2_with (go_at_call 83; refine H.out.mono ?_; rintro e w2 ⟨g, rfl, hb, ha⟩; have HB := Lib.hid (And.intro hb ha); clear hb ha)
  exact bodyPost_ret (v := g) (by simp [results, Tryz.results57, go_sem]) rfl ⟨g, rfl, HB.out.1, HB.out.2⟩

set_option maxRecDepth 100000 in
theorem funcMaxBy_ok (l ks : List J) (hokl : ∀ x ∈ l, x.ok) (hlk : ks.length = l.length) (hlen : l.length ≤ lim) (hok : ∀ k ∈ ks, k.ok) (w : World) (S : Nat → Prop) (hS : ∀ b, S b → b < w.heap.size) (gl gg : Value) (h1 : ARep w S (.arr l) gl) (h2 : ARep w S (.arr ks) gg) :
    Calls Tryz.prog 84 #[gl, gg] w (AnyGives w (some (if l.length = 0 then .null else l.getD (mmN ks false l.length) .null))) := by
  have h1' := h1
  have h2' := h2
  obtain ⟨b1, o1, c1, rfl, _⟩ := h1'
  obtain ⟨b2, o2, c2, rfl, _⟩ := h2'
  have H := Lib.hid (minMax_ok false l ks hokl hlk hlen hok w S hS _ _ h1 h2)
  have hne : ((l.length : Int) != ks.length) = false := by rw [hlk]; simp
  clear h1 h2 hS hok hokl hlk hlen
  generalize (if l.length = 0 then .null else l.getD (mmN ks false l.length) .null) = rr at H ⊢
  go_enter Tryz.func84, Tryz.ntmps84
  go_wp2_with (go_at_call 111; refine H.out.mono ?_; rintro e w2 ⟨g, rfl, hb, ha⟩; have HB := Lib.hid (And.intro hb ha); clear hb ha)
  exact bodyPost_ret (v := g) (by simp [results, Tryz.results84, go_sem]) rfl ⟨g, rfl, HB.out.1, HB.out.2⟩

set_option maxRecDepth 100000 in
theorem ZzMaxBy_ok (l ks : List J) (hokl : ∀ x ∈ l, x.ok) (hlk : ks.length = l.length) (hlen : l.length ≤ lim) (hok : ∀ k ∈ ks, k.ok) (w : World) (S : Nat → Prop) (hS : ∀ b, S b → b < w.heap.size) (gl gg : Value) (h1 : ARep w S (.arr l) gl) (h2 : ARep w S (.arr ks) gg) :
    Calls Tryz.prog 58 #[gl, gg] w (AnyGives w (some (if l.length = 0 then .null else l.getD (mmN ks false l.length) .null))) := by
  have H := Lib.hid (funcMaxBy_ok l ks hokl hlk hlen hok w S hS gl gg h1 h2)
  clear h1 h2 hS hok hokl hlk hlen
  generalize (if l.length = 0 then .null else l.getD (mmN ks false l.length) .null) = rr at H ⊢
  go_enter Tryz.func58, Tryz.ntmps58
  go_wp2_with (go_at_call 84; refine H.out.mono ?_; rintro e w2 ⟨g, rfl, hb, ha⟩; have HB := Lib.hid (And.intro hb ha); clear hb ha)
  exact bodyPost_ret (v := g) (by simp [results, Tryz.results58, go_sem]) rfl ⟨g, rfl, HB.out.1, HB.out.2⟩
end Go.Gj
