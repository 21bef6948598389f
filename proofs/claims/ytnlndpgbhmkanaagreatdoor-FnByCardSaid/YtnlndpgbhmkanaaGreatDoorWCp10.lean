/-
  gojq.Compare at arrays.
-/
import Derived.Test.YtnlndpgbhmkanaaGreatDoorWCp4
import Derived.Test.YtnlndpgbhmkanaaGreatDoorWCp7
import Derived.Test.YtnlndpgbhmkanaaGreatDoorLookL
namespace Go.Gj
set_option linter.unusedSimpArgs false
set_option linter.unusedVariables false
set_option linter.unnecessarySimpa false
open Go Go.RowKit Go.Proofs

/-- Compare's contract at two values. -/
def CmpAOk (x y : J) : Prop := ∀ (w : World) (S : Nat → Prop) (g h : Value), (∀ b, S b → b < w.heap.size) → ARep w S x g → ARep w S y h → Calls Tryz.prog 109 #[g, h] w fun e w' => e = .returned (.int .i64 (cmpJ x y)) ∧ Below w.heap.size w w'

set_option maxHeartbeats 1000000 in
set_option maxRecDepth 100000 in
theorem cmpArr_ok (l m : List J) (hx : ∀ x ∈ l, x.ok) (hy : ∀ y ∈ m, y.ok) (ih : ∀ i (h1 : i < l.length) (h2 : i < m.length), CmpAOk l[i] m[i]) (hlen1 : l.length ≤ lim) (hlen2 : m.length ≤ lim) (w : World) (S : Nat → Prop) (hS : ∀ b, S b → b < w.heap.size)
    (sx sy : Value) (h1 : ARep w S (.arr l) (.iface 80 sx)) (h2 : ARep w S (.arr m) (.iface 80 sy)) :
    Calls Tryz.prog 166 #[sx, sy] w fun e w' => e = .returned (.int .i64 (sgn (cmpL l m))) ∧ Below w.heap.size w w' := by
  obtain ⟨b1, o1, c1, he1, _, hb1, ha1⟩ := h1
  obtain ⟨b2, o2, c2, he2, _, hb2, ha2⟩ := h2
  obtain rfl : sx = .slice (some ⟨b1, o1, none⟩) l.length c1 := by simpa using he1
  obtain rfl : sy = .slice (some ⟨b2, o2, none⟩) m.length c2 := by simpa using he2
  unfold lim at hlen1 hlen2
  have HA1 := Lib.hid ha1
  have HA2 := Lib.hid ha2
  have HIH := Lib.hid ih
  have HS := Lib.hid hS
  have HC := Lib.hid (cmpInt_ok l.length m.length)
  have HBX := Lib.hid (And.intro hb1 hb2)
  have HB0 := Lib.hid (Below.refl w.heap.size w)
  clear ha1 ha2 ih hS he1 he2 hb1 hb2 hx hy
  obtain ⟨mn, hmn⟩ : ∃ mn, mn = min l.length m.length := ⟨_, rfl⟩
  have hmn1 : mn ≤ l.length := by omega
  have hmn2 : mn ≤ m.length := by omega
  have hmn3 : mn = l.length ∨ mn = m.length := by omega
  have hmi : min (l.length : Int) (m.length : Int) = (mn : Int) := by omega
  clear hmn
  go_enter Tryz.func166, Tryz.ntmps166
  go_wp2_with fail
  go_loopw [12] (fun v12 wr => ∃ k : Nat, v12 = .int .i64 k ∧ k ≤ mn ∧ cmpL (l.drop k) (m.drop k) = cmpL l m ∧ Below w.heap.size w wr) (fun v12 _ => mn - (Go.RowKit.intOf v12).toNat)
  case atStart => exact ⟨0, rfl, Nat.zero_le _, rfl, HB0.out⟩
  case round =>
    obtain ⟨k, rfl, hk, hcmp, hbel⟩ := hrel
    have HBE := Lib.hid hbel
    have HCM := Lib.hid hcmp
    clear hbel hcmp
    by_cases hlt : k < mn
    · have hik : (k : Int) < mn := by omega
      have hk1 : k < l.length := by omega
      have hk2 : k < m.length := by omega
      have hik1 : (k : Int) < l.length := by omega
      have hik2 : (k : Int) < m.length := by omega
      obtain ⟨g1, hg1, hr1⟩ := ACells.at l o1 k hk1 HA1.out
      obtain ⟨g2, hg2, hr2⟩ := ACells.at m o2 k hk2 HA2.out
      have CB : Hid (∀ w1, Below w.heap.size w w1 → (w1.cell? ⟨b1, o1 + k, none⟩ = some g1 ∧ w1.cell? ⟨b2, o2 + k, none⟩ = some g2)) := Lib.hid fun w1 hb => by
        have G := hb.cell (p := ⟨b1, o1 + k, none⟩) (HS.out b1 HBX.out.1)
        have F := hb.cell (p := ⟨b2, o2 + k, none⟩) (HS.out b2 HBX.out.2)
        exact ⟨by rw [G]; exact hg1, by rw [F]; exact hg2⟩
      have HD := Lib.hid (fun w1 (hb : Below w.heap.size w w1) => HIH.out k hk1 hk2 w1 S g1 g2 (lt_below hb HS.out) (hr1.keep (.of_below hb HS.out) (fun _ h => h)) (hr2.keep (.of_below hb HS.out) (fun _ h => h)))
      have HJ := Lib.hid (cmpL_drop l m k hk1 hk2)
      have hrng := cmpJ_range l[k] m[k]
      generalize cmpJ l[k] m[k] = dd at HD HJ hrng
      clear hg1 hg2 hr1 hr2
      go_upto_region 4 with fail
      have HQ0 := Lib.hid HBE.out.drew
      obtain ⟨f1, f2⟩ := CB.out _ HQ0.out
      go_region_held3 (fun w1 => w1.cell? ⟨b1, o1 + k, none⟩ = some g1 ∧ w1.cell? ⟨b2, o2 + k, none⟩ = some g2)
        (first | with_reducible exact CB.out _ HQ0.out | with_reducible exact CB.out _ HQ1.out)
        ((go_at_call 109; (with_reducible refine (HD.out _ HQ0.out).mono ?_); rintro e w2 ⟨rfl, hx⟩; have HQ1 := Lib.hid (HQ0.out.trans (hx.mono HQ0.out.size)); clear hx))
      by_cases hd : dd = 0
      · subst hd
        go_wp2_with fail
        go_roundw
        case rel => exact ⟨k + 1, by go_num, hlt, by rw [← HCM.out, HJ.out, if_pos rfl], HQ1.out⟩
        case measure => simp [Go.RowKit.intOf]; omega
      · have hdb : (dd != 0) = true := by simpa using hd
        have hres : sgn (cmpL l m) = dd := by
          rw [← HCM.out, HJ.out, if_neg hd]
          have h1 := hrng.1
          have h2 := hrng.2
          unfold sgn
          repeat' split
          all_goals omega
        have HRES := Lib.hid hres
        clear hres
        go_wp2_with fail
        exact bodyPost_ret (v := .int .i64 dd) (by simp [results, Tryz.results166, go_sem]) rfl ⟨by rw [HRES.out], HQ1.out⟩
    · have hik : ¬ (k : Int) < mn := by omega
      obtain rfl : k = mn := by omega
      have hres : sgn (cmpL l m) = sgn ((l.length : Int) - m.length) := by rw [← HCM.out, cmpL_end l m k hmn1 hmn2 hmn3]
      have HRES := Lib.hid hres
      clear hres
      have HC2 := Lib.hid (fun w1 => cmpInt_ok l.length m.length w1)
      generalize sgn ((l.length : Int) - m.length) = rr at HC2 HRES
      clear HC
      go_wp2_with (go_at_call 161; refine (HC2.out _).mono ?_; rintro e w2 ⟨rfl, hx⟩; have HB2 := Lib.hid (HBE.out.trans (hx.mono HBE.out.size)); clear hx)
      exact bodyPost_ret (v := .int .i64 rr) (by simp [results, Tryz.results166, go_sem]) rfl ⟨by rw [HRES.out], HB2.out⟩
end Go.Gj

/-
  gojq.Compare at objects.
-/
namespace Go.Gj
set_option linter.unusedSimpArgs false
set_option linter.unusedVariables false
set_option linter.unnecessarySimpa false
open Go Go.RowKit Go.Proofs

theorem cmpL_strs : ∀ ks ls : List ByteArray, cmpL (ks.map J.str) (ls.map J.str) = cmpKs ks ls
  | [], [] => by simp [cmpL, cmpKs]
  | [], _ :: _ => by simp [cmpL, cmpKs]
  | _ :: _, [] => by simp [cmpL, cmpKs]
  | k :: ks, l :: ls => by
    simp only [List.map_cons, cmpL, cmpKs, cmpJ]
    rw [cmpL_strs ks ls]
    rfl

@[go_sem] theorem as_80_80f (v : Value) (w : World) : (Instr.typeAssert (.iface 80 v) 20 80 false).run Tryz.prog w = .ok v w := by kernel_rfl
@[go_sem] theorem as_9_9f (v : Value) (w : World) : (Instr.typeAssert (.iface 9 v) 20 9 false).run Tryz.prog w = .ok v w := by kernel_rfl

set_option maxHeartbeats 1000000 in
set_option maxRecDepth 100000 in
theorem cmpObj_ok (ks ls : List ByteArray) (vs ws : List J) (hx : (J.obj ks vs).ok) (hy : (J.obj ls ws).ok) (hstr : CmpAOk (.arr (ks.map .str)) (.arr (ls.map .str))) (ih : ∀ x ∈ vs, ∀ y, y.ok → CmpAOk x y) (w : World) (S : Nat → Prop) (hS : ∀ b, S b → b < w.heap.size)
    (sx sy : Value) (h1 : ARep w S (.obj ks vs) (.iface 83 sx)) (h2 : ARep w S (.obj ls ws) (.iface 83 sy)) :
    Calls Tryz.prog 167 #[sx, sy] w fun e w' => e = .returned (.int .i64 (cmpJ (.obj ks vs) (.obj ls ws))) ∧ Below w.heap.size w w' := by
  obtain ⟨r1, es1, clk1, he1, hr1, hh1, hst1, hp1, hk1, ha1⟩ := h1
  obtain ⟨r2, es2, clk2, he2, hr2, hh2, hst2, hp2, hk2, ha2⟩ := h2
  obtain rfl : sx = .map (some r1) := by simpa using he1
  obtain rfl : sy = .map (some r2) := by simpa using he2
  obtain ⟨hl1, hn1, hri1, _, ho1⟩ := hx
  obtain ⟨hl2, hn2, hri2, _, ho2⟩ := hy
  have hlt1 := hS r1 hr1
  have hlt2 := hS r2 hr2
  have HF1 := Lib.hid (funcKeys_ok ks es1 clk1 r1 w hh1 hst1 hp1 hn1 hri1 hk1)
  have HF2 := Lib.hid (fun w1 (hb : Below w.heap.size w w1) => funcKeys_ok ls es2 clk2 r2 w1 ((hb.block r2 hlt2).trans hh2) hst2 hp2 hn2 hri2 hk2)
  have HSTR := Lib.hid hstr
  have HIH := Lib.hid ih
  have HS := Lib.hid hS
  have HOK := Lib.hid (And.intro hl1 (And.intro hl2 (And.intro ((oks_iff _).1 ho1) ((oks_iff _).1 ho2))))
  have hb0 := Below.refl w.heap.size w
  have HLK1 := Lib.hid (fun s => obj_lookup hh1 hp1 hri1 hl1 ha1 s false)
  have HLK2 := Lib.hid (fun s => obj_lookup hh2 hp2 hri2 hl2 ha2 s false)
  have HH := Lib.hid (And.intro hh1 hh2)
  have HN := Lib.hid (And.intro hri1 hri2)
  unfold lim at hn1 hn2
  have HB0 := Lib.hid hb0
  clear hstr ih hS hh1 hh2 hst1 hst2 hp1 hp2 hk1 hk2 ha1 ha2 hl1 hl2 ho1 ho2 hb0 hri1 hri2 hr1 hr2 he1 he2
  go_enter Tryz.func167, Tryz.ntmps167
  go_upto_region 2 with (first
    | (go_at_call 168; (with_reducible refine HF1.out.mono ?_); rintro e w2 ⟨rfl, hx, hsz, har, hc⟩; have HB1 := Lib.hid hx; have HK1 := Lib.hid (And.intro hsz (And.intro har hc)); clear hx hsz har hc)
    | (go_at_call 168; (with_reducible refine (HF2.out _ HB1.out).mono ?_); rintro e w3 ⟨rfl, hx, hsz, har, hc⟩; have HB2 := Lib.hid hx; have HK2 := Lib.hid (And.intro hsz (And.intro har hc)); clear hx hsz har hc))
  have hj : cmpJ (.arr (ks.map .str)) (.arr (ls.map .str)) = sgn (cmpKs ks ls) := by simp only [cmpJ]; rw [cmpL_strs]
  have HC := Lib.hid (HSTR.out w3 (allB w3) _ _ (fun _ h => h) (HK1.out.2.1.keep (.of_below HB2.out (fun b hb => hb.2)) (fun b hb => Nat.lt_of_lt_of_le hb.2 HB2.out.size)) (HK2.out.2.1.keep (fun _ _ => rfl) (fun b hb => hb.2)))
  rw [hj] at HC
  have HB3 := Lib.hid (HB1.out.trans (HB2.out.mono HB1.out.size))
  have HKC : Hid (∀ j (hj : j < ks.length), w3.cell? ⟨w.heap.size, j, none⟩ = some (.iface 9 (.string ks[j]))) := Lib.hid fun j hj => by
    rw [← HK1.out.2.2 j hj]
    exact HB2.out.cell HK1.out.1
  have hw3 : w.heap.size < w3.heap.size := Nat.lt_of_lt_of_le HK1.out.1 HB2.out.size
  clear HF1 HF2 hj
  by_cases hz : cmpKs ks ls = 0
  · obtain rfl := cmpKs_zero _ _ hz
    have hres : cmpJ (.obj ks vs) (.obj ks ws) = sgn (cmpL vs ws) := by simp only [cmpJ]; rw [if_pos hz]
    have HRES := Lib.hid hres
    rw [hz, show sgn 0 = 0 from rfl] at HC
    clear hres hz
    go_wp2_with (go_at_call 109; (with_reducible refine HC.out.mono ?_); rintro e w4 ⟨rfl, hx⟩; have HB4 := Lib.hid (HB3.out.trans (hx.mono HB3.out.size)); have HX4 := Lib.hid hx; clear hx)
    go_loopw [26] (fun v26 wr => ∃ k : Nat, v26 = .int .i64 k ∧ k ≤ ks.length ∧ cmpL (vs.drop k) (ws.drop k) = cmpL vs ws ∧ Below w3.heap.size w3 wr) (fun v26 _ => ks.length - (Go.RowKit.intOf v26).toNat)
    case atStart => exact ⟨0, rfl, Nat.zero_le _, rfl, HX4.out⟩
    case round =>
      obtain ⟨k, rfl, hk, hcmp, hbel⟩ := hrel
      have HBE := Lib.hid hbel
      have HCM := Lib.hid hcmp
      clear hbel hcmp
      by_cases hlt : k < ks.length
      · have hik : (k : Int) < ks.length := by omega
        have hk1 : k < vs.length := by have := HOK.out.1; omega
        have hk2 : k < ws.length := by have := HOK.out.2.1; omega
        have hck := HKC.out k hlt
        rw [← HBE.out.cell hw3] at hck
        obtain ⟨g1, b1, hb1, hlk1, har1⟩ := HLK1.out ks[k]
        obtain ⟨g2, b2, hb2, hlk2, har2⟩ := HLK2.out ks[k]
        have hnd := rises_nodup HN.out.1
        rw [getK_at ks vs hnd k hlt hk1] at har1
        rw [getK_at ks ws hnd k hlt hk2] at har2
        have CB : Hid (∀ w1, Below w3.heap.size w3 w1 → ((Instr.lookup 83 (.map (some r1)) (.string ks[k]) false).run Tryz.prog w1 = .ok g1 w1 ∧ (Instr.lookup 83 (.map (some r2)) (.string ks[k]) false).run Tryz.prog w1 = .ok g2 w1)) := Lib.hid fun w1 hb => by
          have hbw := HB3.out.trans (hb.mono HB3.out.size)
          exact ⟨hlk1 w1 ((hbw.block r1 hlt1).trans HH.out.1), hlk2 w1 ((hbw.block r2 hlt2).trans HH.out.2)⟩
        have HD := Lib.hid (fun w1 (hb : Below w3.heap.size w3 w1) => by
          have hbw := HB3.out.trans (hb.mono HB3.out.size)
          exact HIH.out vs[k] (List.getElem_mem hk1) ws[k] (HOK.out.2.2.2 _ (List.getElem_mem hk2)) w1 S g1 g2 (lt_below hbw HS.out) (har1.keep (.of_below hbw HS.out) (fun _ h => h)) (har2.keep (.of_below hbw HS.out) (fun _ h => h)))
        have HJ := Lib.hid (cmpL_drop vs ws k hk1 hk2)
        have hrng := cmpJ_range vs[k] ws[k]
        generalize cmpJ vs[k] ws[k] = dd at HD HJ hrng
        generalize ks[k] = kk at CB hck
        clear hb1 hb2 hlk1 hlk2 har1 har2 hnd
        go_upto_region 8 with fail
        go_cut [10] (fun v wx => v = .int .i64 dd ∧ Below w3.heap.size w3 wx)
        case first =>
          have HQ0 := Lib.hid HBE.out.drew
          obtain ⟨f1, f2⟩ := CB.out _ HQ0.out
          go_region_held3 (fun w1 => (Instr.lookup 83 (.map (some r1)) (.string kk) false).run Tryz.prog w1 = .ok g1 w1 ∧ (Instr.lookup 83 (.map (some r2)) (.string kk) false).run Tryz.prog w1 = .ok g2 w1)
            (first | with_reducible exact CB.out _ HQ0.out | with_reducible exact CB.out _ HQ1.out)
            ((go_at_call 109; (with_reducible refine (HD.out _ HQ0.out).mono ?_); rintro e w5 ⟨rfl, hx⟩; have HQ1 := Lib.hid (HQ0.out.trans (hx.mono HQ0.out.size)); clear hx))
          all_goals (go_wp2_with fail; go_meet; exact ⟨rfl, HQ1.out⟩)
        obtain ⟨rfl, hq1⟩ := hcut
        have HQ1 := Lib.hid hq1
        clear hq1
        by_cases hd : dd = 0
        · subst hd
          go_wp2_with fail
          go_roundw
          case rel => exact ⟨k + 1, by go_num, hlt, by rw [← HCM.out, HJ.out, if_pos rfl], HQ1.out⟩
          case measure => simp [Go.RowKit.intOf]; omega
        · have hdb : (dd != 0) = true := by simpa using hd
          have hdc : (dd == 0) = false := by simpa using hd
          have hres : sgn (cmpL vs ws) = dd := by
            rw [← HCM.out, HJ.out, if_neg hd]
            have h1 := hrng.1
            have h2 := hrng.2
            unfold sgn
            repeat' split
            all_goals omega
          have HR2 := Lib.hid hres
          clear hres
          go_wp2_with fail
          exact bodyPost_ret (v := .int .i64 dd) (by simp [results, Tryz.results167, go_sem]) rfl ⟨by rw [HRES.out, HR2.out], HB3.out.trans (HQ1.out.mono HB3.out.size)⟩
      · have hik : ¬ (k : Int) < ks.length := by omega
        have hres : sgn (cmpL vs ws) = 0 := by
          have h1 := HOK.out.1
          have h2 := HOK.out.2.1
          rw [← HCM.out, cmpL_end vs ws k (by omega) (by omega) (.inl (by omega))]
          rw [show (vs.length : Int) - ws.length = 0 by omega]
          rfl
        have HR2 := Lib.hid hres
        clear hres
        go_wp2_with fail
        exact bodyPost_ret (v := .int .i64 0) (by simp [results, Tryz.results167, go_sem]) rfl ⟨by rw [HRES.out, HR2.out], HB3.out.trans (HBE.out.mono HB3.out.size)⟩
  · have hres : cmpJ (.obj ks vs) (.obj ls ws) = sgn (cmpKs ks ls) := by simp only [cmpJ]; rw [if_neg hz]
    have hne : sgn (cmpKs ks ls) ≠ 0 := fun h => hz (sgn_eq.1 h)
    have HRES := Lib.hid hres
    generalize sgn (cmpKs ks ls) = dd at HC hne HRES
    have hdb : (dd != 0) = true := by simpa using hne
    clear hres hz
    go_wp2_with (go_at_call 109; (with_reducible refine HC.out.mono ?_); rintro e w4 ⟨rfl, hx⟩; have HB4 := Lib.hid (HB3.out.trans (hx.mono HB3.out.size)); clear hx)
    exact bodyPost_ret (v := .int .i64 dd) (by simp [results, Tryz.results167, go_sem]) rfl ⟨by rw [HRES.out], HB4.out⟩
end Go.Gj

/-
  gojq.Compare is the order of values.
-/
namespace Go.Gj
set_option linter.unusedSimpArgs false
set_option linter.unusedVariables false
set_option linter.unnecessarySimpa false
open Go Go.RowKit Go.Proofs

set_option maxRecDepth 100000 in
theorem cmp_of {g h : Value} {w : World} {r : Int} (H0 : Calls Tryz.prog 160 #[g, h, .func (.func 161) #[] #[], .func (.func 162) #[] #[], .func (.func 164) #[] #[], .func (.func 165) #[] #[], .func (.func 166) #[] #[], .func (.func 167) #[] #[], .func (.func 169) #[] #[]] w fun e w' => e = .returned (.int .i64 r) ∧ Below w.heap.size w w') :
    Calls Tryz.prog 109 #[g, h] w fun e w' => e = .returned (.int .i64 r) ∧ Below w.heap.size w w' := by
  have H := Lib.hid H0
  clear H0
  go_enter Tryz.func109, Tryz.ntmps109
  go_wp2_with (go_at_call 160; refine H.out.mono ?_; rintro e w2 ⟨rfl, hx⟩; have HB := Lib.hid hx; clear hx)
  exact bodyPost_ret (v := .int .i64 r) (by simp [results, Tryz.results109, go_sem]) rfl ⟨rfl, HB.out⟩

/-- Two values' comparison, where arrays and objects are known. -/
theorem cmp_base {x y : J} (hx : x.ok) (hy : y.ok) (HA : ∀ l m, x = .arr l → y = .arr m → ∀ i (h1 : i < l.length) (h2 : i < m.length), CmpAOk l[i] m[i])
    (HO : ∀ ks vs ls ws, x = .obj ks vs → y = .obj ls ws → CmpAOk (.arr (ks.map .str)) (.arr (ls.map .str)) ∧ ∀ v ∈ vs, ∀ u, u.ok → CmpAOk v u) : CmpAOk x y := by
  intro w S g h hS h1 h2
  refine cmp_of (bts_ok (h1.form hx) (h2.form hy) w ?_ ?_)
  · rintro sx sy rfl rfl
    have f1 := h1.form hx
    have f2 := h2.form hy
    cases x <;> cases f1
    cases y <;> cases f2
    rename_i l b o c m b2 o2 c2
    have hc : cmpJ (.arr l) (.arr m) = sgn (cmpL l m) := by simp only [cmpJ]
    rw [hc]
    exact cmpArr_ok l m ((oks_iff _).1 hx.2) ((oks_iff _).1 hy.2) (HA l m rfl rfl) hx.1 hy.1 w S hS _ _ h1 h2
  · rintro sx sy rfl rfl
    have f1 := h1.form hx
    have f2 := h2.form hy
    cases x <;> cases f1
    cases y <;> cases f2
    rename_i ks vs r ls ws r2
    obtain ⟨hs, hv⟩ := HO ks vs ls ws rfl rfl
    exact cmpObj_ok ks ls vs ws hx hy hs hv w S hS _ _ h1 h2

theorem CmpAOk.str {s t : ByteArray} (hs : s.size ≤ lim) (ht : t.size ≤ lim) : CmpAOk (.str s) (.str t) :=
  cmp_base hs ht (fun _ _ h => by cases h) (fun _ _ _ _ h => by cases h)

theorem CmpAOk.strs {ks ls : List ByteArray} (h1 : ks.length ≤ lim) (h2 : ls.length ≤ lim) (hk : ∀ k ∈ ks, k.size ≤ lim) (hl : ∀ k ∈ ls, k.size ≤ lim) : CmpAOk (.arr (ks.map .str)) (.arr (ls.map .str)) := by
  have ok1 : ∀ k ∈ ks.map J.str, k.ok := fun k hk' => by
    obtain ⟨a, ha, rfl⟩ := List.mem_map.1 hk'
    exact hk a ha
  have ok2 : ∀ k ∈ ls.map J.str, k.ok := fun k hk' => by
    obtain ⟨a, ha, rfl⟩ := List.mem_map.1 hk'
    exact hl a ha
  refine cmp_base ⟨by rw [List.length_map]; exact h1, (oks_iff _).2 ok1⟩ ⟨by rw [List.length_map]; exact h2, (oks_iff _).2 ok2⟩ (fun l m e1 e2 i g1 g2 => ?_) (fun _ _ _ _ h => by cases h)
  obtain rfl : ks.map J.str = l := by simpa using e1
  obtain rfl : ls.map J.str = m := by simpa using e2
  simp only [List.getElem_map]
  exact CmpAOk.str (hk _ (List.getElem_mem _)) (hl _ (List.getElem_mem _))

/-- gojq.Compare. -/
theorem Compare_ok : ∀ (x y : J), x.ok → y.ok → CmpAOk x y := by
  have key : ∀ (n : Nat) (x y : J), SizeOf.sizeOf x ≤ n → x.ok → y.ok → CmpAOk x y := by
    intro n
    induction n with
    | zero => intro x y h; cases x <;> simp at h
    | succ n ih =>
      intro x y hn hx hy
      refine cmp_base hx hy (fun l m e1 e2 i h1 h2 => ?_) (fun ks vs ls ws e1 e2 => ⟨?_, fun v hv u hu => ?_⟩)
      · subst e1 e2
        have hl : SizeOf.sizeOf l[i] < SizeOf.sizeOf (J.arr l) := list_lt (x := .arr l) (List.getElem_mem h1)
        exact ih _ _ (by omega) ((oks_iff _).1 hx.2 _ (List.getElem_mem h1)) ((oks_iff _).1 hy.2 _ (List.getElem_mem h2))
      · subst e1 e2
        exact CmpAOk.strs hx.2.1 hy.2.1 hx.2.2.2.1 hy.2.2.2.1
      · subst e1 e2
        have hl : SizeOf.sizeOf v < SizeOf.sizeOf (J.obj ks vs) := vals_lt (x := .obj ks vs) hv
        exact ih _ _ (by omega) ((oks_iff _).1 hx.2.2.2.2 _ hv) hu
  exact fun x y hx hy => key _ x y (Nat.le_refl _) hx hy
#print axioms Compare_ok
end Go.Gj
