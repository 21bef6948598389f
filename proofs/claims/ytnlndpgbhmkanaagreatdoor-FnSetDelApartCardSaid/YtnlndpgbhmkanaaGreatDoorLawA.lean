/-
  laws.fits, laws.straight.
-/
import Derived.Test.YtnlndpgbhmkanaaGreatDoorWLaw
import Derived.Test.YtnlndpgbhmkanaaGreatDoorWSpecD
namespace Go.Gj
set_option linter.unusedSimpArgs false
set_option linter.unusedVariables false
set_option linter.unnecessarySimpa false
open Go Go.RowKit Go.Proofs

theorem VRep.shape {w : World} {S : Nat → Prop} {x : V} {v : Value} (h : VRep w S x v) : ∃ k hh t a1 n1 m1 a2 n2 m2 a3 n3 m3, v = .agg #[.int .i64 k, .int .i64 hh, .string t, .slice a1 n1 m1, .slice a2 n2 m2, .slice a3 n3 m3] := by
  obtain ⟨k, hh, t, l, ks, vs⟩ := x
  obtain ⟨s1, s2, s3, rfl, _, _, _, ⟨a1, m1, rfl, _⟩, ⟨a2, m2, rfl, _⟩, ⟨a3, m3, rfl, _⟩⟩ := h
  exact ⟨_, _, _, _, _, _, _, _, _, _, _, _, rfl⟩

set_option maxHeartbeats 400000 in
set_option maxRecDepth 100000 in
theorem fits_ok (l : List V) (w : World) (S : Nat → Prop) (a : Option Addr) (c : Nat) (hT : Tabs w) (hS : ∀ b, S b → b < w.heap.size) (h : SlOf S l.length (fun b o => VCells w S b l o) (.slice a l.length c)) :
    Calls Tryz.prog 11 #[.slice a l.length c] w fun e w' => ∃ r, e = .returned (.bool r) ∧ Below w.heap.size w w' ∧ (r = true → ∀ x ∈ l, ∃ y : J, y.fit ∧ x = y.toV) := by
  obtain ⟨a', c', hv, hn, hq⟩ := h
  obtain ⟨rfl, rfl⟩ : a = a' ∧ c = c' := by simpa using hv
  have hat : ∀ i (hi : i < l.length), ∃ b o, a = some ⟨b, o, none⟩ ∧ S b ∧ ∃ k hh t b1 n1 m1 b2 n2 m2 b3 n3 m3, w.cell? ⟨b, o + i * 6, none⟩ = some (.int .i64 k) ∧ w.cell? ⟨b, o + i * 6 + 1, none⟩ = some (.int .i64 hh) ∧ w.cell? ⟨b, o + i * 6 + 2, none⟩ = some (.string t) ∧
      w.cell? ⟨b, o + i * 6 + 3, none⟩ = some (.slice b1 n1 m1) ∧ w.cell? ⟨b, o + i * 6 + 4, none⟩ = some (.slice b2 n2 m2) ∧ w.cell? ⟨b, o + i * 6 + 5, none⟩ = some (.slice b3 n3 m3) ∧ VRep w S l[i] (.agg #[.int .i64 k, .int .i64 hh, .string t, .slice b1 n1 m1, .slice b2 n2 m2, .slice b3 n3 m3]) := by
    intro i hi
    obtain ⟨b, o, rfl, hsb, hc⟩ := hq.resolve_left (by omega)
    obtain ⟨c0, c1, c2, c3, c4, c5, h0, h1, h2, h3, h4, h5, hr⟩ := VCells.at l o i hi hc
    obtain ⟨k, hh, t, b1, n1, m1, b2, n2, m2, b3, n3, m3, hv⟩ := hr.shape
    simp only [Value.agg.injEq, Array.mk.injEq, List.cons.injEq, and_true] at hv
    obtain ⟨rfl, rfl, rfl, rfl, rfl, rfl⟩ := hv
    exact ⟨b, o, rfl, hsb, _, _, _, _, _, _, _, _, _, _, _, _, h0, h1, h2, h3, h4, h5, hr⟩
  have HAT := Lib.hid hat
  have HS := Lib.hid (fun b (hb : S b) => hS b hb)
  have HT := Lib.hid hT
  unfold mostLen at hn
  clear hv hq hat hS hT
  go_enter Tryz.func11, Tryz.ntmps11
  go_wp2_with fail
  go_loopw [7] (fun i wr => ∃ k : Nat, k ≤ l.length ∧ i = .int .i64 k ∧ Below w.heap.size w wr ∧ ∀ j (hj : j < l.length), j < k → ∃ y : J, y.fit ∧ l[j] = y.toV) (fun i _ => l.length - (intOf i).toNat)
  case atStart => exact ⟨0, Nat.zero_le _, rfl, Below.refl _ _, fun j hj h => absurd h (Nat.not_lt_zero _)⟩
  case round =>
    obtain ⟨k, hk1, rfl, hbel, hall⟩ := hrel
    by_cases hlt : k < l.length
    · obtain ⟨b1, o1, rfl, hs1, kk, hh, t, e1, n1, m1, e2, n2, m2, e3, n3, m3, g0, g1, g2, g3, g4, g5, hr1⟩ := HAT.out k hlt
      have G := fun o => hbel.cell (p := ⟨b1, o, none⟩) (HS.out b1 hs1)
      rw [← G] at g0 g1 g2 g3 g4 g5
      clear G
      have hB2 := below1 wr (.cells #[.int .i64 kk, .int .i64 hh, .string t, .slice e1 n1 m1, .slice e2 n2 m2, .slice e3 n3 m3] 26)
      have hbel2 := hbel.trans (hB2.mono hbel.size)
      have HC := Lib.hid (Fit_fit l[k] _ S _ (HT.out.below hbel2) (lt_below hbel2 HS.out) (VRep.keep (.of_below hbel2 HS.out) (fun _ h => h) _ _ hr1))
      have HBE := Lib.hid hbel2
      have HAL := Lib.hid hall
      clear hr1 hbel hall hB2 hbel2
      go_wp2_with (go_at_call 47; refine HC.out.mono ?_; rintro e w' ⟨r, rfl, hb', hr⟩; have HBB := Lib.hid hb'; have HRR := Lib.hid hr; clear hb' hr; cases r)
      · refine bodyPost_ret (v := .bool false) (by simp [results, Tryz.results11, go_sem]) rfl ?_
        exact ⟨false, rfl, HBE.out.trans (HBB.out.mono HBE.out.size), fun h => by cases h⟩
      · go_roundw
        case rel => exact ⟨k + 1, hlt, by go_num, HBE.out.trans (HBB.out.mono HBE.out.size), fun j hj h => by
          rcases Nat.lt_succ_iff_lt_or_eq.1 h with h | rfl
          · exact HAL.out j hj h
          · exact HRR.out (by trivial)⟩
        case measure => simp [intOf]; omega
    · have HBE := Lib.hid hbel
      have HAL : Hid (∀ x ∈ l, ∃ y : J, y.fit ∧ x = y.toV) := Lib.hid fun x hx => by
        obtain ⟨j, hj, rfl⟩ := List.getElem_of_mem hx
        exact hall j hj (by omega)
      clear hbel hall
      go_wp2_with fail
      refine bodyPost_ret (v := .bool true) (by simp [results, Tryz.results11, go_sem]) rfl ?_
      exact ⟨true, rfl, HBE.out, fun _ => HAL.out⟩

set_option maxHeartbeats 4000000 in
set_option maxRecDepth 100000 in
theorem straight_ok (p : List J) (hok : ∀ k ∈ p, k.ok) (w : World) (S : Nat → Prop) (a : Option Addr) (c : Nat) (hS : ∀ b, S b → b < w.heap.size) (h : JSl w S p (.slice a p.length c)) :
    Calls Tryz.prog 13 #[.slice a p.length c] w fun e w' => ∃ r, e = .returned (.bool r) ∧ Below w.heap.size w w' ∧ (r = true → p.length ≤ 20 ∧ ∀ k ∈ p, keyOk k) := by
  obtain ⟨a', c', hv, hn, hat⟩ := h.at
  obtain ⟨rfl, rfl⟩ : a = a' ∧ c = c' := by simpa using hv
  have HAT := Lib.hid hat
  have HS := Lib.hid (fun b (hb : S b) => hS b hb)
  have HOK := Lib.hid hok
  unfold mostLen at hn
  clear hv hat hS h hok
  go_enter Tryz.func13, Tryz.ntmps13
  go_wp2_with fail
  go_loopw [7] (fun i wr => ∃ k : Nat, k ≤ p.length ∧ i = .int .i64 k ∧ Below w.heap.size w wr ∧ ∀ j (hj : j < p.length), j < k → keyOk p[j]) (fun i _ => p.length - (intOf i).toNat)
  case atStart => exact ⟨0, Nat.zero_le _, rfl, Below.refl _ _, fun j hj h => absurd h (Nat.not_lt_zero _)⟩
  case round =>
    obtain ⟨k, hk1, rfl, hbel, hall⟩ := hrel
    by_cases hlt : k < p.length
    · obtain ⟨b1, o1, rfl, hs1, d0, d1, d2, d3, d4, d5, g0, g1, g2, g3, g4, g5, hr1⟩ := HAT.out k hlt
      have G := fun o => hbel.cell (p := ⟨b1, o, none⟩) (HS.out b1 hs1)
      rw [← G] at g0 g1 g2 g3 g4 g5
      clear G
      obtain ⟨e1, m1, e2, m2, e3, m3, rfl, rfl, rfl, rfl, rfl, rfl⟩ := (show JRep w S p[k] _ from hr1).cells6
      have hB2 := below1 wr (.cells #[.int .i64 p[k].kind, .int .i64 p[k].half, .string p[k].text, .slice e1 p[k].list.length m1, .slice e2 p[k].keys.length m2, .slice e3 p[k].vals.length m3] 26)
      have HBE := Lib.hid (hbel.trans (hB2.mono hbel.size))
      have HAL := Lib.hid hall
      have hhalf := ok_half (HOK.out p[k] (List.getElem_mem hlt))
      clear hr1 hbel hall hB2
      -- the key's kind and number
      have good : ∀ (W : World), keyOk p[k] → (∀ j (hj : j < p.length), j < k + 1 → keyOk p[j]) := fun _ hk j hj h => by
        rcases Nat.lt_succ_iff_lt_or_eq.1 h with h | rfl
        · exact HAL.out j hj h
        · exact hk
      have GOOD := Lib.hid (good w)
      clear good
      have hkind : p[k].kind = 4 → keyOk p[k] := fun h => by
        generalize p[k] = q at h
        rcases q with _ | (_ | _) | _ | _ | _ | ⟨_, _⟩ <;> first | trivial | (simp [J.kind] at h)
      have hnum : p[k].kind = 3 → 0 ≤ p[k].half → p[k].half ≤ 200 → p[k].half % 2 = 0 → keyOk p[k] := fun h h1 h2 h3 => by
        generalize p[k] = q at h h1 h2 h3
        rcases q with _ | (_ | _) | _ | _ | _ | ⟨_, _⟩ <;> first | exact ⟨h1, h2, h3⟩ | (simp [J.kind] at h)
      have HKI := Lib.hid hkind
      have HNU := Lib.hid hnum
      clear hkind hnum
      by_cases h4 : p[k].kind = 4
      · have h4' : (p[k].kind != 4) = false := by simp [h4]
        have HK := Lib.hid (HKI.out h4)
        clear h4
        go_wp2_with fail
        go_roundw
        case rel => exact ⟨k + 1, hlt, by go_num, HBE.out, GOOD.out HK.out⟩
        case measure => simp [intOf]; omega
      · have h4' : (p[k].kind != 4) = true := by simp [h4]
        clear h4
        by_cases h3 : p[k].kind = 3
        · have h3' : (p[k].kind != 3) = false := by simp [h3]
          have HK3 := Lib.hid h3
          clear h3
          by_cases hm : p[k].half.tmod 2 = 0
          · have hm' : (p[k].half.tmod 2 != 0) = false := by simp [hm]
            have HM := Lib.hid (show p[k].half % 2 = 0 by have := Int.dvd_of_tmod_eq_zero hm; omega)
            clear hm
            by_cases h0 : p[k].half < 0
            · have h0' : decide (p[k].half < 0) = true := by simp [h0]
              clear h0
              go_wp2_with fail
              refine bodyPost_ret (v := .bool false) (by simp [results, Tryz.results13, go_sem]) rfl ?_
              exact ⟨false, rfl, HBE.out, fun h => by cases h⟩
            · have h0' : decide (p[k].half < 0) = false := by simp [h0]
              have H0 := Lib.hid (show 0 ≤ p[k].half by omega)
              clear h0
              by_cases h200 : p[k].half > 200
              · have h2' : decide ((200 : Int) < p[k].half) = true := by simp; omega
                clear h200
                go_wp2_with fail
                refine bodyPost_ret (v := .bool false) (by simp [results, Tryz.results13, go_sem]) rfl ?_
                exact ⟨false, rfl, HBE.out, fun h => by cases h⟩
              · have h2' : decide ((200 : Int) < p[k].half) = false := by simp; omega
                have HK := Lib.hid (HNU.out HK3.out H0.out (by omega) HM.out)
                clear h200
                go_wp2_with fail
                go_roundw
                case rel => exact ⟨k + 1, hlt, by go_num, HBE.out, GOOD.out HK.out⟩
                case measure => simp [intOf]; omega
          · have hm' : (p[k].half.tmod 2 != 0) = true := by simp [hm]
            clear hm
            go_wp2_with fail
            refine bodyPost_ret (v := .bool false) (by simp [results, Tryz.results13, go_sem]) rfl ?_
            exact ⟨false, rfl, HBE.out, fun h => by cases h⟩
        · have h3' : (p[k].kind != 3) = true := by simp [h3]
          clear h3
          go_wp2_with fail
          refine bodyPost_ret (v := .bool false) (by simp [results, Tryz.results13, go_sem]) rfl ?_
          exact ⟨false, rfl, HBE.out, fun h => by cases h⟩
    · have HBE := Lib.hid hbel
      have HAL : Hid (∀ x ∈ p, keyOk x) := Lib.hid fun x hx => by
        obtain ⟨j, hj, rfl⟩ := List.getElem_of_mem hx
        exact hall j hj (by omega)
      clear hbel hall
      by_cases h20 : (p.length : Int) ≤ 20
      · have h20' : decide ((p.length : Int) ≤ 20) = true := by simp; omega
        go_wp2_with fail
        refine bodyPost_ret (v := .bool true) (by simp [results, Tryz.results13, go_sem]) rfl ?_
        exact ⟨true, rfl, HBE.out, fun _ => ⟨by omega, HAL.out⟩⟩
      · have h20' : decide ((p.length : Int) ≤ 20) = false := by simp; omega
        go_wp2_with fail
        refine bodyPost_ret (v := .bool false) (by simp [results, Tryz.results13, go_sem]) rfl ?_
        first | exact ⟨false, rfl, HBE.out, fun h => by cases h⟩ | exact .inl ⟨rfl, HBE.out⟩
end Go.Gj
