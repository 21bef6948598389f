/-
  laws.FnJoin.
-/
import Derived.Test.YtnlndpgbhmkanaaGreatDoorWJ11
import Derived.Test.YtnlndpgbhmkanaaGreatDoorLawGF
namespace Go.Gj
set_option linter.unusedSimpArgs false
set_option linter.unusedVariables false
set_option linter.unnecessarySimpa false
open Go Go.RowKit Go.Proofs

theorem fit_all : ∀ (l : List V), (∀ x ∈ l, ∃ y : J, y.fit ∧ x = y.toV) → ∃ p : List J, l = J.toVs p ∧ ∀ x ∈ p, x.fit
  | [], _ => ⟨[], rfl, fun x hx => by cases hx⟩
  | v :: l, h => by
    obtain ⟨p, hp, hf⟩ := fit_all l fun x hx => h x (by simp [hx])
    obtain ⟨y, hy, hv⟩ := h v (by simp)
    refine ⟨y :: p, by rw [hp, hv]; rfl, fun x hx => ?_⟩
    rcases List.mem_cons.1 hx with rfl | hx
    · exact hy
    · exact hf x hx

theorem since_lt0 {n : Nat} {w : World} : ∀ b, since n w b → b < w.heap.size := fun _ h => h.2

theorem jTxt_fit (x : J) (h : x.fit) : ∀ s, jTxt x = some s → s.size ≤ 5000 := by
  intro s hs
  cases x with
  | null => cases hs
  | bool b => obtain rfl := Option.some.inj hs; cases b <;> decide
  | num h' =>
    obtain rfl := Option.some.inj hs
    have := Lib.itoa_length_le (h' / 2) (by have := h.1; omega) (by have := h.2.1; omega)
    rw [itoa_size]; omega
  | str s' => obtain rfl := Option.some.inj hs; have : s'.size ≤ 2000 := h; omega
  | arr l => cases hs
  | obj ks vs => cases hs
theorem getD_size (x : J) (h : x.fit) : ((jTxt x).getD ⟨#[]⟩).size ≤ 5000 := by
  cases hj : jTxt x with
  | none => exact Nat.zero_le _
  | some s => exact jTxt_fit x h s hj
theorem wantB_fit (t : ByteArray) (ht : t.size ≤ 100) (p : List J) (hp : ∀ x ∈ p, x.fit) : ∀ k, (wantB t p k).size ≤ 5100 * k
  | 0 => Nat.zero_le _
  | k + 1 => by
    have ih := wantB_fit t ht p hp k
    have h1 : ((jTxt (p[k]?.getD .null)).getD ⟨#[]⟩).size ≤ 5000 := by
      by_cases hk : k < p.length
      · have e : p[k]?.getD .null = p[k] := by simp [hk]
        rw [e]; exact getD_size _ (hp _ (List.getElem_mem hk))
      · have e : p[k]?.getD .null = .null := by simp [hk]
        rw [e]; exact Nat.zero_le _
    have h2 : (if k = 0 then (⟨#[]⟩ : ByteArray) else t).size ≤ 100 := by split <;> first | exact Nat.zero_le _ | exact ht
    simp only [wantB, size_app]
    omega

set_option maxHeartbeats 4000000 in
set_option maxRecDepth 100000 in
/-- laws.FnJoin: it answers true. -/
theorem FnJoin_ok (l : List V) (t : ByteArray) (w : World) (S : Nat → Prop) (vp : Value) (hT : Tabs w) (hS : ∀ b, S b → b < w.heap.size) (hp : SlOf S l.length (fun b o => VCells w S b l o) vp) (htm : t.size ≤ mostLen) :
    Calls Tryz.prog 9 #[vp, .string t] w fun e w' => e = .returned (.bool true) ∧ Below w.heap.size w w' := by
  have hp0 := hp
  obtain ⟨pa, pc, rfl, hpn, _⟩ := hp0
  have key : ∀ w1, Below w.heap.size w w1 → Tabs w1 ∧ (∀ b, S b → b < w1.heap.size) ∧ SlOf S l.length (fun b o => VCells w1 S b l o) (.slice pa l.length pc) := fun w1 h1 => ⟨hT.below h1, lt_below h1 hS, SlOf.vkeep hp (.of_below h1 hS)⟩
  have KEY := Lib.hid key
  have HP0 := Lib.hid (Below.refl w.heap.size w)
  have HVAL := Lib.hid (fun w1 (h1 : Below w.heap.size w w1) => valid_ok t w1 (key w1 h1).1 htm)
  have HFINE := Lib.hid (fun w1 (h1 : Below w.heap.size w w1) => fine_ok l w1 S pa pc (key w1 h1).1 (key w1 h1).2.1 (key w1 h1).2.2)
  have HS := Lib.hid (fun b (hb : S b) => hS b hb)
  have hpn' := hpn
  have htm' := htm
  unfold mostLen at hpn' htm'
  clear key hp hT hS hpn htm
  obtain ⟨d1, hd1⟩ : ∃ d : Bool, decide ((2147483647 : Int) < (l.length : Int)) = d := ⟨_, rfl⟩
  obtain ⟨d2, hd2⟩ : ∃ d : Bool, decide ((2147483647 : Int) < (t.size : Int)) = d := ⟨_, rfl⟩
  obtain ⟨d3, hd3⟩ : ∃ d : Bool, decide ((100 : Int) < (l.length : Int)) = d := ⟨_, rfl⟩
  obtain ⟨d4, hd4⟩ : ∃ d : Bool, decide ((100 : Int) < (t.size : Int)) = d := ⟨_, rfl⟩
  by_cases hall : d1 = false ∧ d2 = false ∧ d3 = false ∧ d4 = false
  rotate_left
  · go_enter Tryz.func9, Tryz.ntmps9
    cases d1 <;> cases d2 <;> cases d3 <;> cases d4
    all_goals first
      | exact absurd ⟨rfl, rfl, rfl, rfl⟩ hall
      | (go_wp2_with fail
         exact bodyPost_ret (v := .bool true) (by simp [results, Tryz.results9, go_sem]) rfl ⟨rfl, HP0.out⟩)
  obtain ⟨rfl, rfl, rfl, rfl⟩ := hall
  go_enter Tryz.func9, Tryz.ntmps9
  go_upto_region 5 with (first
    | (go_at_call 39; (with_reducible refine (HVAL.out _ HP0.out).mono ?_); rintro e w1 ⟨q1, rfl, hx⟩; have HP1 := Lib.hid (HP0.out.trans (hx.mono HP0.out.size)); clear hx; cases q1)
    | (go_at_call 40; (with_reducible refine (HFINE.out _ HP1.out).mono ?_); rintro e w2 ⟨q2, rfl, hx, hq⟩; have HP2 := Lib.hid (HP1.out.trans (hx.mono HP1.out.size)); have HQ2 := Lib.hid hq; clear hx hq; cases q2))
  all_goals first
    | exact bodyPost_ret (v := .bool true) (by simp [results, Tryz.results9, go_sem]) rfl ⟨rfl, HP2.out⟩
    | exact bodyPost_ret (v := .bool true) (by simp [results, Tryz.results9, go_sem]) rfl ⟨rfl, HP1.out⟩
    | skip
  obtain ⟨p, hl, hf⟩ := fit_all l (HQ2.out (by trivial))
  have hlen : l.length = p.length := by rw [hl, toVs_length]
  have hp100 : p.length ≤ 100 := by have := of_decide_eq_false hd3; omega
  have ht100 : t.size ≤ 100 := by have := of_decide_eq_false hd4; omega
  have HL := Lib.hid hl
  have HF := Lib.hid hf
  have HLEN := Lib.hid hlen
  have HP100 := Lib.hid hp100
  have HT100 := Lib.hid ht100
  clear hl hf HQ2 HVAL HFINE hp100 ht100 hlen
  go_wp2_with fail
  go_loopw [5, 6] (fun a i wr => ∃ k : Nat, k ≤ l.length ∧ i = .int .i64 k ∧ a = .string (wantB t p k) ∧ Below w.heap.size w wr ∧ ∀ j (hj : j < p.length), j < k → joinable p[j]) (fun _ i _ => l.length - (RowKit.intOf i).toNat)
  case atStart => exact ⟨0, Nat.zero_le _, rfl, rfl, HP2.out, fun j hj h => absurd h (Nat.not_lt_zero _)⟩
  case round =>
    obtain ⟨k, hk1, rfl, rfl, hbel, hall⟩ := hrel
    have HBE := Lib.hid hbel
    have HAL := Lib.hid hall
    clear hbel hall
    by_cases hlt : k < l.length
    · have hkp : k < p.length := by have := HLEN.out; omega
      obtain ⟨b1, o1, rfl, hsb, g0, g1, g2, g3, g4, g5, f0, f1, f2, f3, f4, f5, hrk⟩ := (jsl_of HL.out (KEY.out _ HBE.out).2.2).at' k hkp
      obtain ⟨e1, s1, e2, s2, e3, s3, rfl, rfl, rfl, rfl, rfl, rfl⟩ := hrk.cells6
      have hxf : p[k].fit := HF.out _ (List.getElem_mem hkp)
      have HG : Hid (∀ w1, Below wr.heap.size wr w1 → w1.cell? ⟨b1, o1 + k * 6, none⟩ = some (.int .i64 p[k].kind) ∧ w1.cell? ⟨b1, o1 + k * 6 + 1, none⟩ = some (.int .i64 p[k].half) ∧ w1.cell? ⟨b1, o1 + k * 6 + 2, none⟩ = some (.string p[k].text) ∧ w1.cell? ⟨b1, o1 + k * 6 + 3, none⟩ = some (.slice e1 p[k].list.length s1) ∧ w1.cell? ⟨b1, o1 + k * 6 + 4, none⟩ = some (.slice e2 p[k].keys.length s2) ∧ w1.cell? ⟨b1, o1 + k * 6 + 5, none⟩ = some (.slice e3 p[k].vals.length s3)) := Lib.hid fun w1 h1 => by
        have G := fun o => h1.cell (p := ⟨b1, o, none⟩) ((KEY.out _ HBE.out).2.1 b1 hsb)
        exact ⟨(G _).trans f0, (G _).trans f1, (G _).trans f2, (G _).trans f3, (G _).trans f4, (G _).trans f5⟩
      have hhalf := ok_half (fit_ok hxf)
      have HWH := Lib.hid (Whole_ok p[k].kind p[k].half p[k].text (.slice e1 p[k].list.length s1) (.slice e2 p[k].keys.length s2) (.slice e3 p[k].vals.length s3) (by omega) (by omega) wr)
      have hstep : joinable p[k] → ∀ j (hj : j < p.length), j < k + 1 → joinable p[j] := fun hx j hj h => by
        rcases Nat.lt_succ_iff_lt_or_eq.1 h with h | rfl
        · exact HAL.out j hj h
        · exact hx
      have hwant : wantB t p (k + 1) = (wantB t p k ++ (if k = 0 then ⟨#[]⟩ else t)) ++ ((jTxt p[k]).getD ⟨#[]⟩) := by
        simp only [wantB]
        rw [show p[k]?.getD .null = p[k] by simp [hkp]]
      have hwsz : (wantB t p k).size ≤ 520000 := by
        have := wantB_fit t HT100.out p HF.out k
        have := HP100.out
        omega
      have htsz := HT100.out
      have hsplit : ∃ tw : ByteArray, wantB t p (k + 1) = tw ++ ((jTxt p[k]).getD ⟨#[]⟩) ∧ tw.size ≤ 521000 ∧ ((k = 0 ∧ wantB t p k = tw) ∨ (0 < k ∧ tw = wantB t p k ++ t)) := by
        rcases Nat.eq_zero_or_pos k with h0 | h0
        · exact ⟨wantB t p k, by rw [hwant, if_pos h0]; congr 1; exact ByteArray.append_empty, by omega, .inl ⟨h0, rfl⟩⟩
        · exact ⟨wantB t p k ++ t, by rw [hwant, if_neg (by omega)], by rw [size_app]; omega, .inr ⟨h0, rfl⟩⟩
      obtain ⟨tw, htw, htws, htwk⟩ := hsplit
      have HSTEP := Lib.hid hstep
      have HW := Lib.hid htw
      have HGS := Lib.hid (getD_size _ hxf)
      have HR0 := Lib.hid (Below.refl wr.heap.size wr)
      clear hrk hstep hwant hhalf htw f0 f1 f2 f3 f4 f5
      generalize p[k] = x at HG HWH HSTEP HW HGS hxf
      have HTWK := Lib.hid htwk
      have hcase : 0 < k ∨ ¬ 0 < k := Classical.em _
      clear htwk
      rcases hcase with h0 | h0
      · have htk : tw = wantB t p k ++ t := by rcases HTWK.out with ⟨e, _⟩ | ⟨_, e⟩ <;> first | omega | exact e
        have hz : ¬ (9223372036854775807 < (wantB t p k).size + t.size) := by omega
        have HTK := Lib.hid htk
        clear htk HTWK
        go_upto_region 11 with fail
        rw [← HTK.out]
        clear HTK h0 hz
        obtain ⟨x0, x1, x2, x3, x4, x5⟩ := HG.out wr HR0.out
        go_upto_region 12 with (go_at_call 41; refine HWH.out.mono ?_; rintro e w3 ⟨n, is, rfl, hb3, his⟩)
        have HB3 := Lib.hid hb3
        have HIS := Lib.hid his
        have HBW : Hid (Below w.heap.size w w3) := Lib.hid (HBE.out.trans (HB3.out.mono HBE.out.size))
        clear x0 x1 x2 x3 x4 x5 hb3 his
        obtain ⟨x0, x1, x2, x3, x4, x5⟩ := HG.out w3 HB3.out
        have hgs := HGS.out
        cases x with
        | null =>
          obtain rfl : is = false := by cases is with | false => rfl | true => exact absurd (HIS.out rfl).1 (by simp [J.kind])
          simp only [J.kind, J.text] at x0 x2
          go_wp2_with fail
          go_roundw
          case rel => exact ⟨_, hlt, by go_num, by rw [HW.out]; exact congrArg Value.string ByteArray.append_empty.symm, HBW.out, HSTEP.out trivial⟩
          case measure => simp [RowKit.intOf]; omega
        | bool y =>
          cases y
          · obtain rfl : is = false := by cases is with | false => rfl | true => exact absurd (HIS.out rfl).1 (by simp [J.kind])
            simp only [J.kind, J.text] at x0 x2
            have hz : ¬ (9223372036854775807 < tw.size + 5) := by omega
            go_wp2_with fail
            go_roundw
            case rel => exact ⟨_, hlt, by go_num, by rw [HW.out]; rfl, HBW.out, HSTEP.out trivial⟩
            case measure => simp [RowKit.intOf]; omega
          · obtain rfl : is = false := by cases is with | false => rfl | true => exact absurd (HIS.out rfl).1 (by simp [J.kind])
            simp only [J.kind, J.text] at x0 x2
            have hz : ¬ (9223372036854775807 < tw.size + 4) := by omega
            go_wp2_with fail
            go_roundw
            case rel => exact ⟨_, hlt, by go_num, by rw [HW.out]; rfl, HBW.out, HSTEP.out trivial⟩
            case measure => simp [RowKit.intOf]; omega
        | str s =>
          obtain rfl : is = false := by cases is with | false => rfl | true => exact absurd (HIS.out rfl).1 (by simp [J.kind])
          simp only [J.kind, J.text] at x0 x2
          have hz : ¬ (9223372036854775807 < tw.size + s.size) := by have : s.size ≤ 5000 := hgs; omega
          go_wp2_with fail
          go_roundw
          case rel => exact ⟨_, hlt, by go_num, by rw [HW.out]; rfl, HBW.out, HSTEP.out (show s.size ≤ 4096 by have : s.size ≤ 2000 := hxf; omega)⟩
          case measure => simp [RowKit.intOf]; omega
        | num h =>
          simp only [J.kind, J.text] at x0 x2
          cases is
          · go_wp2_with fail
            exact bodyPost_ret (v := .bool true) (by simp [results, Tryz.results9, go_sem]) rfl ⟨rfl, HBW.out⟩
          · have hn : h = 2 * n := (HIS.out rfl).2
            by_cases h1 : -1000000000000000 ≤ n
            · by_cases h2 : n ≤ 1000000000000000
              · have c1 : decide (-1000000000000000 ≤ n) = true := by simp [h1]
                have c2 : decide (n ≤ 1000000000000000) = true := by simp [h2]
                have hnh : h / 2 = n := by omega
                have hisz : (itoaB n).size ≤ 5000 := by have := hgs; simp only [jTxt, hnh, Option.getD_some] at this; exact this
                have hz : ¬ (9223372036854775807 < tw.size + (itoaB n).size) := by omega
                have HD := Lib.hid (fun w4 => Digits_ok n (by omega) (by omega) w4)
                go_wp2_with (go_at_call 42; refine (HD.out _).mono ?_; rintro e w4 ⟨rfl, rfl⟩)
                go_roundw
                case rel => exact ⟨_, hlt, by go_num, by rw [HW.out]; simp only [jTxt, hnh, Option.getD_some], HBW.out, HSTEP.out ⟨by omega, by omega, by omega⟩⟩
                case measure => simp [RowKit.intOf]; omega
              · have c2 : decide (n ≤ 1000000000000000) = false := by simp; omega
                go_wp2_with fail
                exact bodyPost_ret (v := .bool true) (by simp [results, Tryz.results9, go_sem]) rfl ⟨rfl, HBW.out⟩
            · have c1 : decide (-1000000000000000 ≤ n) = false := by simp; omega
              go_wp2_with fail
              exact bodyPost_ret (v := .bool true) (by simp [results, Tryz.results9, go_sem]) rfl ⟨rfl, HBW.out⟩
        | arr l =>
          obtain rfl : is = false := by cases is with | false => rfl | true => exact absurd (HIS.out rfl).1 (by simp [J.kind])
          simp only [J.kind, J.text] at x0 x2
          go_wp2_with fail
          exact bodyPost_ret (v := .bool true) (by simp [results, Tryz.results9, go_sem]) rfl ⟨rfl, HBW.out⟩
        | obj ks vs =>
          obtain rfl : is = false := by cases is with | false => rfl | true => exact absurd (HIS.out rfl).1 (by simp [J.kind])
          simp only [J.kind, J.text] at x0 x2
          go_wp2_with fail
          exact bodyPost_ret (v := .bool true) (by simp [results, Tryz.results9, go_sem]) rfl ⟨rfl, HBW.out⟩
      · have htk : wantB t p k = tw := by rcases HTWK.out with ⟨_, e⟩ | ⟨e, _⟩ <;> first | omega | exact e
        have HTK := Lib.hid htk
        clear htk HTWK
        go_upto_region 11 with fail
        rw [HTK.out]
        clear HTK h0
        obtain ⟨x0, x1, x2, x3, x4, x5⟩ := HG.out wr HR0.out
        go_upto_region 12 with (go_at_call 41; refine HWH.out.mono ?_; rintro e w3 ⟨n, is, rfl, hb3, his⟩)
        have HB3 := Lib.hid hb3
        have HIS := Lib.hid his
        have HBW : Hid (Below w.heap.size w w3) := Lib.hid (HBE.out.trans (HB3.out.mono HBE.out.size))
        clear x0 x1 x2 x3 x4 x5 hb3 his
        obtain ⟨x0, x1, x2, x3, x4, x5⟩ := HG.out w3 HB3.out
        have hgs := HGS.out
        cases x with
        | null =>
          obtain rfl : is = false := by cases is with | false => rfl | true => exact absurd (HIS.out rfl).1 (by simp [J.kind])
          simp only [J.kind, J.text] at x0 x2
          go_wp2_with fail
          go_roundw
          case rel => exact ⟨_, hlt, by go_num, by rw [HW.out]; exact congrArg Value.string ByteArray.append_empty.symm, HBW.out, HSTEP.out trivial⟩
          case measure => simp [RowKit.intOf]; omega
        | bool y =>
          cases y
          · obtain rfl : is = false := by cases is with | false => rfl | true => exact absurd (HIS.out rfl).1 (by simp [J.kind])
            simp only [J.kind, J.text] at x0 x2
            have hz : ¬ (9223372036854775807 < tw.size + 5) := by omega
            go_wp2_with fail
            go_roundw
            case rel => exact ⟨_, hlt, by go_num, by rw [HW.out]; rfl, HBW.out, HSTEP.out trivial⟩
            case measure => simp [RowKit.intOf]; omega
          · obtain rfl : is = false := by cases is with | false => rfl | true => exact absurd (HIS.out rfl).1 (by simp [J.kind])
            simp only [J.kind, J.text] at x0 x2
            have hz : ¬ (9223372036854775807 < tw.size + 4) := by omega
            go_wp2_with fail
            go_roundw
            case rel => exact ⟨_, hlt, by go_num, by rw [HW.out]; rfl, HBW.out, HSTEP.out trivial⟩
            case measure => simp [RowKit.intOf]; omega
        | str s =>
          obtain rfl : is = false := by cases is with | false => rfl | true => exact absurd (HIS.out rfl).1 (by simp [J.kind])
          simp only [J.kind, J.text] at x0 x2
          have hz : ¬ (9223372036854775807 < tw.size + s.size) := by have : s.size ≤ 5000 := hgs; omega
          go_wp2_with fail
          go_roundw
          case rel => exact ⟨_, hlt, by go_num, by rw [HW.out]; rfl, HBW.out, HSTEP.out (show s.size ≤ 4096 by have : s.size ≤ 2000 := hxf; omega)⟩
          case measure => simp [RowKit.intOf]; omega
        | num h =>
          simp only [J.kind, J.text] at x0 x2
          cases is
          · go_wp2_with fail
            exact bodyPost_ret (v := .bool true) (by simp [results, Tryz.results9, go_sem]) rfl ⟨rfl, HBW.out⟩
          · have hn : h = 2 * n := (HIS.out rfl).2
            by_cases h1 : -1000000000000000 ≤ n
            · by_cases h2 : n ≤ 1000000000000000
              · have c1 : decide (-1000000000000000 ≤ n) = true := by simp [h1]
                have c2 : decide (n ≤ 1000000000000000) = true := by simp [h2]
                have hnh : h / 2 = n := by omega
                have hisz : (itoaB n).size ≤ 5000 := by have := hgs; simp only [jTxt, hnh, Option.getD_some] at this; exact this
                have hz : ¬ (9223372036854775807 < tw.size + (itoaB n).size) := by omega
                have HD := Lib.hid (fun w4 => Digits_ok n (by omega) (by omega) w4)
                go_wp2_with (go_at_call 42; refine (HD.out _).mono ?_; rintro e w4 ⟨rfl, rfl⟩)
                go_roundw
                case rel => exact ⟨_, hlt, by go_num, by rw [HW.out]; simp only [jTxt, hnh, Option.getD_some], HBW.out, HSTEP.out ⟨by omega, by omega, by omega⟩⟩
                case measure => simp [RowKit.intOf]; omega
              · have c2 : decide (n ≤ 1000000000000000) = false := by simp; omega
                go_wp2_with fail
                exact bodyPost_ret (v := .bool true) (by simp [results, Tryz.results9, go_sem]) rfl ⟨rfl, HBW.out⟩
            · have c1 : decide (-1000000000000000 ≤ n) = false := by simp; omega
              go_wp2_with fail
              exact bodyPost_ret (v := .bool true) (by simp [results, Tryz.results9, go_sem]) rfl ⟨rfl, HBW.out⟩
        | arr l =>
          obtain rfl : is = false := by cases is with | false => rfl | true => exact absurd (HIS.out rfl).1 (by simp [J.kind])
          simp only [J.kind, J.text] at x0 x2
          go_wp2_with fail
          exact bodyPost_ret (v := .bool true) (by simp [results, Tryz.results9, go_sem]) rfl ⟨rfl, HBW.out⟩
        | obj ks vs =>
          obtain rfl : is = false := by cases is with | false => rfl | true => exact absurd (HIS.out rfl).1 (by simp [J.kind])
          simp only [J.kind, J.text] at x0 x2
          go_wp2_with fail
          exact bodyPost_ret (v := .bool true) (by simp [results, Tryz.results9, go_sem]) rfl ⟨rfl, HBW.out⟩
    · obtain rfl : k = l.length := by omega
      have hjo : ∀ x ∈ p, joinable x := fun x hx => by
        obtain ⟨j, hj, rfl⟩ := List.getElem_of_mem hx
        exact HAL.out j hj (by have := HLEN.out; omega)
      have hwsz : (wantB t p l.length).size ≤ 520000 := by
        have := wantB_fit t HT100.out p HF.out l.length
        have := HP100.out
        have := HLEN.out
        omega
      have hpok : (J.arr p).ok := ⟨by have := HP100.out; unfold lim; omega, (oks_iff p).2 fun y hy => fit_ok (HF.out y hy)⟩
      have htok : (J.str t).ok := by show t.size ≤ lim; have := HT100.out; unfold lim; omega
      have hwok : (J.str (wantB t p l.length)).ok := by show _ ≤ lim; unfold lim; omega
      have HSTR := Lib.hid (fun s w1 => Str_ok s w1)
      have hjn := fun w1 (h1 : Below wr.heap.size wr w1) => Join_door (.arr p) (.str t) hpok htok (some (.str (wantB t p p.length))) (fun w2 g1 g2 k1 k2 => ZzJoin_ok t HT100.out p hjo HP100.out w2 g1 g2 k1 k2) w1 S (lt_below h1 (KEY.out _ HBE.out).2.1) (.agg #[.int .i64 5, .int .i64 0, .string ⟨#[]⟩, .slice pa l.length pc, .slice none 0 0, .slice none 0 0]) (.agg #[.int .i64 4, .int .i64 0, .string t, .slice none 0 0, .slice none 0 0, .slice none 0 0]) (by have h2 := vrep_arr (KEY.out _ (HBE.out.trans (h1.mono HBE.out.size))).2.2; rw [HL.out] at h2 ⊢; exact h2) (jrep_str w1 S t (by have := HT100.out; unfold mostLen; omega))
      rw [← HLEN.out] at hjn
      have HJN := Lib.hid hjn
      have HSAY := Lib.hid (fun w1 (S2 : Nat → Prop) (c0 c1 c2 c3 c4 c5 : Value) (hS2 : ∀ b, S2 b → b < w1.heap.size) (hv : JRep w1 S2 (.str (wantB t p l.length)) (.agg #[c0, c1, c2, c3, c4, c5])) => says_ok _ _ w1 S2 c0 c1 c2 c3 c4 c5 (.agg #[.int .i64 4, .int .i64 0, .string (wantB t p l.length), .slice none 0 0, .slice none 0 0, .slice none 0 0]) hwok hwok hS2 hv (jrep_str w1 S2 _ (by unfold mostLen; omega)))
      have HQ0 := Lib.hid (Below.refl wr.heap.size wr)
      clear hjn hpok htok hwok
      go_wp2_with (first
        | (go_at_call 45; (with_reducible refine (HSTR.out _ _).mono ?_); rintro e w6 ⟨rfl, hx⟩; have HJ3 := Lib.hid (HJ2.out.below hx since_lt0); have HQ3 := Lib.hid (HQ2.out.trans (hx.mono HQ2.out.size)); have HS3 := Lib.hid hx; clear hx)
        | (go_at_call 45; (with_reducible refine (HSTR.out _ _).mono ?_); rintro e w4 ⟨rfl, hx⟩; have HQ1 := Lib.hid (HQ0.out.trans (hx.mono HQ0.out.size)); clear hx)
        | (go_at_call 44; (with_reducible refine (HJN.out _ HQ1.out).mono ?_); rintro e w5 ⟨c0, c1, c2, c3, c4, c5, en, zz, rfl, hx, hjj, hres⟩; obtain ⟨hzz, rfl⟩ : zz = .str (wantB t p l.length) ∧ en = 0 := hres; subst hzz; have HQ2 := Lib.hid (HQ1.out.trans (hx.mono HQ1.out.size)); have HJ2 := Lib.hid hjj; clear hx hjj)
        | (go_at_call 43; (with_reducible refine (HSAY.out _ _ _ _ _ _ _ _ (lt_below HS3.out since_lt0) HJ3.out).mono ?_); rintro e w7 ⟨rfl, hx⟩; have HQ4 := Lib.hid (HQ3.out.trans (hx.mono HQ3.out.size)); clear hx))
      exact bodyPost_ret (v := .bool true) (by simp [results, Tryz.results9, go_sem, cmpJ_self]) rfl ⟨rfl, HBE.out.trans (HQ4.out.mono HBE.out.size)⟩
end Go.Gj
