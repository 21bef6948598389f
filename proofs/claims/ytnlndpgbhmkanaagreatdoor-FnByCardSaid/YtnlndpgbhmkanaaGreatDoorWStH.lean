/-
  sort.SliceStable: symMerge_func, where both rows have more than one element, and whole.
-/
import Derived.Test.YtnlndpgbhmkanaaGreatDoorWStE
import Derived.Lib.ReflectliteSlice
import Derived.Lib.ReflectliteSwap
import Derived.Laws.Externs
namespace Go.Gj
set_option linter.unusedSimpArgs false
set_option linter.unusedVariables false
set_option linter.unnecessarySimpa false
open Go Go.RowKit Go.Proofs

theorem cut_bounds {a m b mid c : Nat} (ham : a < m) (hmb : m < b) (hmid : mid = (a + b) / 2) (h1 : cutLo a m b mid ≤ c) (h2 : c < cutHi m mid) : a ≤ c ∧ c < m ∧ m ≤ mid + m - 1 - c ∧ mid + m - 1 - c < b ∧ c ≤ mid + m - 1 := by
  unfold cutLo at h1
  unfold cutHi at h2
  split at h1 <;> rename_i h <;> simp only [h, if_true, if_false] at h2 <;> omega

section
variable {blk n : Nat} {lt : Nat → Nat → Bool} {g sf : Nat} {lb sb : Array Value} {I : (Nat → Nat) → World → Prop}

/-- What symMerge_func does, of rows that it may be handed. -/
def SymOk (blk n : Nat) (lt : Nat → Nat → Bool) (g sf : Nat) (lb sb : Array Value) (I : (Nat → Nat) → World → Prop) (a m b : Nat) : Prop := ∀ (d : Nat → Nat) (w : World), I d w → SortedOn lt d a m → SortedOn lt d m b → Sep d a m b →
    Calls Tryz.prog 275 #[.agg #[.func (.func g) #[] lb, .func (.func sf) #[] sb], .int .i64 a, .int .i64 m, .int .i64 b] w fun e w' =>
      e = .returned (.tuple #[]) ∧ (∃ d', I d' w' ∧ Sh a b d d' ∧ SortedOn lt d' a b) ∧ Away blk w.heap.size w w'

set_option maxHeartbeats 1000000 in
set_option maxRecDepth 100000 in
theorem sym_mid (E : SEnv blk n lt g sf lb sb I) (W : Wk lt) (a m b : Nat) (ham : a + 1 < m) (hmb : m + 1 < b) (hb : b ≤ n) (IH : ∀ a' m' b', b' - a' < b - a → a' < m' → m' < b' → b' ≤ n → SymOk blk n lt g sf lb sb I a' m' b') :
    SymOk blk n lt g sf lb sb I a m b := by
  intro d w hI hl hr hs
  have hn := E.hn
  have HE := Lib.hid E
  have hlt := E.lt _ _ hI
  have HI1 := Lib.hid (E.alloc w d (.cells #[.func (.func g) #[] lb, .func (.func sf) #[] sb] 267) hI)
  have HB1 := Lib.hid (away_of (below1 w (.cells #[.func (.func g) #[] lb, .func (.func sf) #[] sb] 267)) blk)
  have HC1 : Hid ((w.alloc (.cells #[.func (.func g) #[] lb, .func (.func sf) #[] sb] 267)).cell? ⟨w.heap.size, 0, none⟩ = some (.func (.func g) #[] lb) ∧ (w.alloc (.cells #[.func (.func g) #[] lb, .func (.func sf) #[] sb] 267)).cell? ⟨w.heap.size, 1, none⟩ = some (.func (.func sf) #[] sb)) := Lib.hid (by unfold World.cell?; rw [heap_alloc_new]; exact ⟨rfl, rfl⟩)
  have HL0 := Lib.hid hl
  have HR0 := Lib.hid hr
  have HS := Lib.hid hs
  have HW := Lib.hid W
  have HIH := Lib.hid IH
  have eg := E.eg
  have h1 : ((m : Int) - a == 1) = false := by rw [beq_eq_false_iff_ne]; omega
  have h2 : ((b : Int) - m == 1) = false := by rw [beq_eq_false_iff_ne]; omega
  obtain ⟨mid, hmid⟩ : ∃ mid, mid = (a + b) / 2 := ⟨_, rfl⟩
  have hmid' : ((a : Int) + b) / 2 = mid := by omega
  obtain ⟨lo, hlo⟩ : ∃ lo, lo = cutLo a m b mid := ⟨_, rfl⟩
  obtain ⟨hi, hhi⟩ : ∃ hi, hi = cutHi m mid := ⟨_, rfl⟩
  have HMID := Lib.hid hmid
  have HLO := Lib.hid hlo
  have HHI := Lib.hid hhi
  clear hI E W hl hr hs IH hmid hlo hhi
  go_enter Tryz.func275, Tryz.ntmps275
  go_upto_if 106 with fail
  have hsz0 := size_alloc w (.cells #[.func (.func g) #[] lb, .func (.func sf) #[] sb] 267)
  generalize hw1 : w.alloc (.cells #[.func (.func g) #[] lb, .func (.func sf) #[] sb] 267) = w1 at HI1 HB1 HC1 hsz0 ⊢
  clear hw1
  try rw [hmid']
  go_cut [18, 19] (fun v18 v19 wx => v18 = .int .i64 lo ∧ v19 = .int .i64 hi ∧ I d wx ∧ Away blk (w.heap.size + 1) w1 wx)
  case first =>
    by_cases hgt : mid < m
    · have hgt' : (m : Int) > mid := by omega
      have e1 : (mid : Int) + m - b = lo := by have := HLO.out; unfold cutLo at this; rw [if_pos hgt] at this; have := HMID.out; omega
      have e2 : hi = mid := by have := HHI.out; unfold cutHi at this; rw [if_pos hgt] at this; exact this
      have E2 := Lib.hid e2
      clear e2
      go_wp2_with fail
      go_meet
      exact ⟨by first | rfl | rw [e1], by rw [E2.out], HI1.out, .refl _ _ _⟩
    · have hgt' : ¬ (m : Int) > mid := by omega
      have e1 : lo = a := by have := HLO.out; unfold cutLo at this; rw [if_neg hgt] at this; exact this
      have e2 : hi = m := by have := HHI.out; unfold cutHi at this; rw [if_neg hgt] at this; exact this
      have E1 := Lib.hid e1
      have E2 := Lib.hid e2
      clear e1 e2
      go_wp2_with fail
      go_meet
      exact ⟨by rw [E1.out], by rw [E2.out], HI1.out, .refl _ _ _⟩
  case rest =>
    obtain ⟨rfl, rfl, hI0, hA0⟩ := hcut
    have HI0 := Lib.hid hI0
    have HA0 := Lib.hid hA0
    clear hI0 hA0 HI1
    have HBND : Hid (∀ c, lo ≤ c → c < hi → a ≤ c ∧ c < m ∧ m ≤ mid + m - 1 - c ∧ mid + m - 1 - c < b ∧ c ≤ mid + m - 1) := Lib.hid fun c h1 h2 => cut_bounds (by omega) (by omega) HMID.out (by rw [← HLO.out]; exact h1) (by rw [← HHI.out]; exact h2)
    have hlohi : lo ≤ hi := by
      have q1 := HLO.out
      have q2 := HHI.out
      have q3 := HMID.out
      unfold cutLo at q1
      unfold cutHi at q2
      split at q1 <;> rename_i h <;> simp only [h, if_true, if_false] at q2 <;> omega
    have hhin : hi ≤ n ∧ mid ≤ n ∧ a ≤ mid := by
      have q2 := HHI.out
      have q3 := HMID.out
      unfold cutHi at q2
      split at q2 <;> omega
    obtain ⟨hhin, hmidn, hamid⟩ := hhin
    go_wp2_with fail
    go_loopw [18, 19] (fun v18 v19 wr => ∃ (s r : Nat), v18 = .int .i64 s ∧ v19 = .int .i64 r ∧ lo ≤ s ∧ s ≤ r ∧ r ≤ hi ∧ (∀ c, lo ≤ c → c < s → lt (d (mid + m - 1 - c)) (d c) = false) ∧ (∀ c, r ≤ c → c < hi → lt (d (mid + m - 1 - c)) (d c) = true) ∧ I d wr ∧ Away blk (w.heap.size + 1) w1 wr) (fun v18 v19 _ => (Go.RowKit.intOf v19).toNat - (Go.RowKit.intOf v18).toNat)
    case atStart => exact ⟨lo, hi, rfl, rfl, Nat.le_refl _, hlohi, Nat.le_refl _, fun c h1 h2 => by omega, fun c h1 h2 => by omega, HI0.out, HA0.out⟩
    case round =>
      obtain ⟨s, r, rfl, rfl, hls, hsr, hrh, hks, hkr, hI, hA⟩ := hrel
      have HI := Lib.hid hI
      have HA := Lib.hid hA
      have HKS := Lib.hid hks
      have HKR := Lib.hid hkr
      obtain ⟨c0, c1⟩ := HC1.out
      rw [← hA.cell (by omega) (by omega)] at c0 c1
      have hsz := hA.size
      clear hI hA hks hkr
      by_cases hsr2 : s < r
      · have hi1 : s ≤ (s + r) / 2 := by omega
        have hi2 : (s + r) / 2 < r := by omega
        obtain ⟨k1, k2, k3, k4, k5⟩ := HBND.out ((s + r) / 2) (by omega) (by omega)
        have hl := HE.out.less _ _ (mid + m - 1 - (s + r) / 2) ((s + r) / 2) HI.out (by omega) (by omega)
        have HL := Lib.hid hl
        clear hl
        rw [show ((mid + m - 1 - (s + r) / 2 : Nat) : Int) = (mid : Int) + m - 1 - ((s : Int) + r) / 2 by omega, show (((s + r) / 2 : Nat) : Int) = ((s : Int) + r) / 2 by omega] at HL
        have k5' : ((s : Int) + r) / 2 ≤ (mid : Int) + m - 1 := by omega
        cases hlv : lt (d (mid + m - 1 - (s + r) / 2)) (d ((s + r) / 2)) with
        | false =>
          rw [hlv] at HL
          go_wp2_with (go_at_fn g; refine HL.out.mono ?_; rintro e w3 ⟨rfl, hI3, hA3⟩; have HI3 := Lib.hid hI3; have HA3 := Lib.hid hA3; clear hI3 hA3)
          go_roundw
          case rel => exact ⟨(s + r) / 2 + 1, r, by go_num, rfl, by omega, by omega, by omega, fun c g1 g2 => cut_mono' HW.out HL0.out HR0.out HS.out (HBND.out c g1 (by omega)).1 (by omega) k2 k3 (HBND.out c g1 (by omega)).2.2.2.1 hlv, HKR.out, HI3.out, HA.out.trans (HA3.out.mono (by omega))⟩
          case measure => simp [Go.RowKit.intOf]; omega
        | true =>
          rw [hlv] at HL
          go_wp2_with (go_at_fn g; refine HL.out.mono ?_; rintro e w3 ⟨rfl, hI3, hA3⟩; have HI3 := Lib.hid hI3; have HA3 := Lib.hid hA3; clear hI3 hA3)
          go_roundw
          case rel => exact ⟨s, (s + r) / 2, rfl, by go_num, by omega, by omega, by omega, HKS.out, fun c g1 g2 => cut_mono HW.out HL0.out HR0.out HS.out k1 g1 (HBND.out c (by omega) g2).2.1 (HBND.out c (by omega) g2).2.2.1 k4 hlv, HI3.out, HA.out.trans (HA3.out.mono (by omega))⟩
          case measure => simp [Go.RowKit.intOf]; omega
      · obtain rfl : s = r := by omega
        have hcr := cut_rot HW.out HL0.out HR0.out HS.out (by omega) (by omega) HMID.out (s := s) (by rw [← HLO.out]; exact hls) (by rw [← HHI.out]; exact hrh) ⟨by rw [← HLO.out]; exact HKS.out, by rw [← HHI.out]; exact HKR.out⟩
        obtain ⟨en, hen⟩ : ∃ en, en = mid + m - s := ⟨_, rfl⟩
        rw [← hen] at hcr
        obtain ⟨f1, f2, f3, f4, f5, f6, f7, f8, f9, f10, f11, f12, f13⟩ := hcr
        have hen' : (mid : Int) + m - s = en := by omega
        have F := Lib.hid (And.intro f7 (And.intro f8 (And.intro f9 (And.intro f10 (And.intro f11 (And.intro f12 f13))))))
        have HEN := Lib.hid hen
        clear f7 f8 f9 f10 f11 f12 f13 hen HKS HKR HBND HLO HHI HL0 HR0 HS
        have hnlt : ¬ (s : Int) < s := by omega
        go_upto_region 40 with fail
        try rw [hen']
        go_cut [145] (fun v wx => v = .bool (decide (s < m ∧ m < en)) ∧ I d wx ∧ Away blk (w.heap.size + 1) w1 wx)
        case first =>
          by_cases hsm : s < m
          · by_cases hme : m < en
            · have hsm' : (s : Int) < m := by omega
              have hme' : (m : Int) < en := by omega
              go_wp2_with fail
              go_meet
              exact ⟨by simp [hsm, hme], HI.out, HA.out⟩
            · have hsm' : (s : Int) < m := by omega
              have hme' : ¬ (m : Int) < en := by omega
              go_wp2_with fail
              go_meet
              exact ⟨by simp [hsm, hme], HI.out, HA.out⟩
          · have hsm' : ¬ (s : Int) < m := by omega
            go_wp2_with fail
            go_meet
            exact ⟨by simp [hsm], HI.out, HA.out⟩
        obtain ⟨rfl, hI1, hA1⟩ := hcut
        have HI1 := Lib.hid hI1
        have HA1 := Lib.hid hA1
        clear c0 c1 HI HA
        obtain ⟨c0, c1⟩ := HC1.out
        rw [← hA1.cell (by omega) (by omega)] at c0 c1
        have hsz1 := hA1.size
        clear hI1 hA1
        generalize hbq : decide (s < m ∧ m < en) = bq
        have HBQ := Lib.hid hbq
        clear hbq
        go_upto_if 145 with fail
        go_cut [] (fun wx => I (rot d s m en) wx ∧ Away blk (w.heap.size + 1) w1 wx)
        case first =>
          cases bq
          · have hrr : rot d s m en = d := by
              have h := of_decide_eq_false HBQ.out
              by_cases hsm : s < m
              · rw [show en = m by omega]; exact rot_right d s m f2
              · rw [show s = m by omega]; exact rot_left d m en f4
            go_wp2_with fail
            go_meet
            exact ⟨by rw [hrr]; exact HI1.out, HA1.out⟩
          · have h := of_decide_eq_true HBQ.out
            have HROT := Lib.hid (rotate_ok HE.out s m en h.1 h.2 (by omega) d _ HI1.out)
            go_wp2_with (go_at_call 318; refine HROT.out.mono ?_; rintro e w3 ⟨rfl, hI3, hA3⟩; have HI3 := Lib.hid hI3; have HA3 := Lib.hid hA3; clear hI3 hA3)
            go_meet
            exact ⟨HI3.out, HA1.out.trans (HA3.out.mono (by omega))⟩
        case rest =>
          obtain ⟨hI2, hA2⟩ := hcut
          have HI2 := Lib.hid hI2
          have HA2 := Lib.hid hA2
          clear c0 c1 HI1 HA1
          obtain ⟨c0, c1⟩ := HC1.out
          rw [← hA2.cell (by omega) (by omega)] at c0 c1
          have hsz2 := hA2.size
          clear hI2 hA2
          generalize hrd : rot d s m en = rd at HI2 F
          have HRD : Hid (Sh a b d rd) := Lib.hid (by rw [← hrd]; exact (Sh.rot d s m en f2 f4).mono f1 f6)
          clear hrd
          go_upto_region 42 with fail
          go_cut [158] (fun v wx => v = .bool (decide (a < s ∧ s < mid)) ∧ I rd wx ∧ Away blk (w.heap.size + 1) w1 wx)
          case first =>
            by_cases has : a < s
            · by_cases hsm : s < mid
              · have has' : (a : Int) < s := by omega
                have hsm' : (s : Int) < mid := by omega
                go_wp2_with fail
                go_meet
                exact ⟨by simp [has, hsm], HI2.out, HA2.out⟩
              · have has' : (a : Int) < s := by omega
                have hsm' : ¬ (s : Int) < mid := by omega
                go_wp2_with fail
                go_meet
                exact ⟨by simp [has, hsm], HI2.out, HA2.out⟩
            · have has' : ¬ (a : Int) < s := by omega
              go_wp2_with fail
              go_meet
              exact ⟨by simp [has], HI2.out, HA2.out⟩
          obtain ⟨rfl, hI1, hA1⟩ := hcut
          have HI1 := Lib.hid hI1
          have HA1 := Lib.hid hA1
          clear c0 c1 HI2 HA2
          obtain ⟨c0, c1⟩ := HC1.out
          rw [← hA1.cell (by omega) (by omega)] at c0 c1
          have hsz3 := hA1.size
          clear hI1 hA1
          generalize hbr : decide (a < s ∧ s < mid) = br
          have HBR := Lib.hid hbr
          clear hbr
          go_upto_if 158 with fail
          go_cut [] (fun wx => ∃ e1, I e1 wx ∧ Sh a mid rd e1 ∧ SortedOn lt e1 a mid ∧ Away blk (w.heap.size + 1) w1 wx)
          case first =>
            cases br
            · have hso : SortedOn lt rd a mid := by
                have h := of_decide_eq_false HBR.out
                by_cases has : a < s
                · exact F.out.1.sub (Nat.le_refl _) (by omega)
                · exact F.out.2.1.sub (by omega) (Nat.le_refl _)
              have HSO := Lib.hid hso
              clear hso
              go_wp2_with fail
              go_meet
              exact ⟨rd, HI1.out, .refl _ _ _, HSO.out, HA1.out⟩
            · have h := of_decide_eq_true HBR.out
              have HREC := Lib.hid (HIH.out a s mid (by omega) h.1 h.2 (by omega) rd _ HI1.out F.out.1 F.out.2.1 F.out.2.2.1)
              go_wp2_with (go_at_call 275; refine HREC.out.mono ?_; rintro e w3 ⟨rfl, hI3, hA3⟩; have HI3 := Lib.hid hI3; have HA3 := Lib.hid hA3; clear hI3 hA3)
              go_meet
              obtain ⟨e1, q1, q2, q3⟩ := HI3.out
              exact ⟨e1, q1, q2, q3, HA1.out.trans (HA3.out.mono (by omega))⟩
          case rest =>
            obtain ⟨e1, hI4, hsh1, hso1, hA4⟩ := hcut
            have HI4 := Lib.hid hI4
            have HA4 := Lib.hid hA4
            have HSH1 := Lib.hid hsh1
            have HSO1 := Lib.hid hso1
            clear c0 c1 HI1 HA1
            obtain ⟨c0, c1⟩ := HC1.out
            rw [← hA4.cell (by omega) (by omega)] at c0 c1
            have hsz4 := hA4.size
            clear hI4 hA4 hsh1 hso1
            have HEQ : Hid (∀ k, mid ≤ k → e1 k = rd k) := Lib.hid fun k hk => HSH1.out.out k (by omega)
            go_upto_region 44 with fail
            have HEND : Hid (∀ wx e2, I e2 wx → Sh mid b e1 e2 → SortedOn lt e2 mid b → Away blk (w.heap.size + 1) w1 wx → (∃ d', I d' wx ∧ Sh a b d d' ∧ SortedOn lt d' a b) ∧ Away blk w.heap.size w wx) := Lib.hid fun wx e2 q1 q2 q3 q4 =>
              ⟨⟨e2, q1, (HRD.out.trans (HSH1.out.mono (Nat.le_refl _) (by omega))).trans (q2.mono (by omega) (Nat.le_refl _)), halves_sorted HSH1.out q2 HSO1.out q3 F.out.2.2.2.2.2.2⟩, HB1.out.trans (q4.mono (by omega))⟩
            by_cases hme : mid < en
            · by_cases heb : en < b
              · have hme' : (mid : Int) < en := by omega
                have heb' : (en : Int) < b := by omega
                have HREC := Lib.hid (HIH.out mid en b (by have := HMID.out; omega) hme heb hb e1 _ HI4.out (F.out.2.2.2.1.congr fun k h _ => HEQ.out k h) (F.out.2.2.2.2.1.congr fun k h _ => HEQ.out k (by omega)) (fun i j q1 q2 q3 q4 => by rw [HEQ.out i q1, HEQ.out j (by omega)]; exact F.out.2.2.2.2.2.1 i j q1 q2 q3 q4))
                go_wp2_with (go_at_call 275; refine HREC.out.mono ?_; rintro e w3 ⟨rfl, hI3, hA3⟩; have HI3 := Lib.hid hI3; have HA3 := Lib.hid hA3; clear hI3 hA3)
                go_end0
                obtain ⟨e2, q1, q2, q3⟩ := HI3.out
                exact ⟨rfl, HEND.out _ e2 q1 q2 q3 (HA4.out.trans (HA3.out.mono (by omega)))⟩
              · have hme' : (mid : Int) < en := by omega
                have heb' : ¬ (en : Int) < b := by omega
                go_wp2_with fail
                go_end0
                exact ⟨rfl, HEND.out _ e1 HI4.out (.refl _ _ _) ((F.out.2.2.2.1.sub (Nat.le_refl _) (by omega)).congr fun k h _ => HEQ.out k h) HA4.out⟩
            · have hme' : ¬ (mid : Int) < en := by omega
              go_wp2_with fail
              go_end0
              exact ⟨rfl, HEND.out _ e1 HI4.out (.refl _ _ _) ((F.out.2.2.2.2.1.sub (by omega) (Nat.le_refl _)).congr fun k h _ => HEQ.out k h) HA4.out⟩

/-- symMerge_func merges. -/
theorem sym_ok (E : SEnv blk n lt g sf lb sb I) (W : Wk lt) : ∀ (a m b : Nat), a < m → m < b → b ≤ n → SymOk blk n lt g sf lb sb I a m b := by
  have key : ∀ (N a m b : Nat), b - a ≤ N → a < m → m < b → b ≤ n → SymOk blk n lt g sf lb sb I a m b := by
    intro N
    induction N with
    | zero => intro a m b h1 h2 h3 _; omega
    | succ N ih =>
      intro a m b hN ham hmb hb
      by_cases h1 : m = a + 1
      · intro d w hI hl hr hs
        subst h1
        exact sym_first E W a (a + 1) b rfl hmb hb d hr hs w hI
      · by_cases h2 : b = m + 1
        · intro d w hI hl hr hs
          subst h2
          exact sym_last E W a m (m + 1) (by omega) rfl hb d hl hs w hI
        · exact sym_mid E W a m b (by omega) (by omega) hb fun a' m' b' q1 q2 q3 q4 => ih a' m' b' (by omega) q2 q3 q4
  exact fun a m b h1 h2 h3 => key (b - a) a m b (Nat.le_refl _) h1 h2 h3
end
end Go.Gj

/-
  sort.SliceStable: stable_func.
-/
namespace Go.Gj
set_option linter.unusedSimpArgs false
set_option linter.unusedVariables false
set_option linter.unnecessarySimpa false
open Go Go.RowKit Go.Proofs

section
variable {lt : Nat → Nat → Bool}

/-- A run: sorted, and of its own elements. -/
def Seg (lt : Nat → Nat → Bool) (d : Nat → Nat) (x e : Nat) : Prop := SortedOn lt d x e ∧ ∀ k, x ≤ k → k < e → x ≤ d k ∧ d k < e

theorem Seg.congr {d d' : Nat → Nat} {x e : Nat} (h : Seg lt d x e) (he : ∀ k, x ≤ k → k < e → d' k = d k) : Seg lt d' x e :=
  ⟨h.1.congr he, fun k h1 h2 => by rw [he k h1 h2]; exact h.2 k h1 h2⟩

theorem Seg.none (d : Nat → Nat) (x : Nat) : Seg lt d x x := ⟨fun i j h1 h2 h3 => by omega, fun k h1 h2 => by omega⟩

theorem Seg.of_sh {d d' : Nat → Nat} {x e : Nat} (hd : ∀ k, x ≤ k → k < e → x ≤ d k ∧ d k < e) (h : Sh x e d d') (hs : SortedOn lt d' x e) : Seg lt d' x e :=
  ⟨hs, fun k h1 h2 => by obtain ⟨k', k1, k2, k3⟩ := h.new k h1 h2; rw [k3]; exact hd k' k1 k2⟩

/-- Runs of s elements each, and a last one. -/
inductive Runs (lt : Nat → Nat → Bool) (s : Nat) (d : Nat → Nat) : Nat → Nat → Prop
  | last {x e : Nat} : x ≤ e → e ≤ x + s → Seg lt d x e → Runs lt s d x e
  | step {x e : Nat} : x + s ≤ e → Seg lt d x (x + s) → Runs lt s d (x + s) e → Runs lt s d x e

inductive Full (lt : Nat → Nat → Bool) (s : Nat) (d : Nat → Nat) : Nat → Prop
  | none : Full lt s d 0
  | snoc {a : Nat} : Full lt s d a → Seg lt d a (a + s) → Full lt s d (a + s)

theorem Runs.congr {s : Nat} {d d' : Nat → Nat} {x e : Nat} (h : Runs lt s d x e) : (∀ k, x ≤ k → k < e → d' k = d k) → Runs lt s d' x e := by
  induction h with
  | last h1 h2 h3 => exact fun he => .last h1 h2 (h3.congr he)
  | step h1 h2 _ ih => exact fun he => .step h1 (h2.congr fun k g1 g2 => he k g1 (by omega)) (ih fun k g1 g2 => he k (by omega) g2)

theorem Full.congr {s : Nat} {d d' : Nat → Nat} {a : Nat} (h : Full lt s d a) : (∀ k, k < a → d' k = d k) → Full lt s d' a := by
  induction h with
  | none => exact fun _ => .none
  | snoc _ h2 ih => exact fun he => .snoc (ih fun k g => he k (by omega)) (h2.congr fun k _ g => he k g)

theorem Full.runs {s : Nat} {d : Nat → Nat} {a e : Nat} (h : Full lt s d a) : Runs lt s d a e → a ≤ e → Runs lt s d 0 e := by
  induction h with
  | none => exact fun h _ => h
  | snoc _ h2 ih => exact fun h hle => ih (.step hle h2 h) (by omega)

/-- Two runs from the front. -/
theorem Runs.two {s : Nat} {d : Nat → Nat} {a e : Nat} (h : Runs lt s d a e) (hs : 0 < s) (he : a + s + s ≤ e) : Seg lt d a (a + s) ∧ Seg lt d (a + s) (a + s + s) ∧ Runs lt s d (a + s + s) e := by
  cases h with
  | last h1 h2 h3 => omega
  | step h1 h2 h3 =>
    cases h3 with
    | last g1 g2 g3 =>
      obtain rfl : e = a + s + s := by omega
      exact ⟨h2, g3, .last (Nat.le_refl _) (by omega) (.none _ _)⟩
    | step g1 g2 g3 => exact ⟨h2, g2, g3⟩

theorem Runs.one {s : Nat} {d : Nat → Nat} {a e : Nat} (h : Runs lt s d a e) (hs : 0 < s) (he : a + s < e) (he2 : e < a + s + s) : Seg lt d a (a + s) ∧ Seg lt d (a + s) e := by
  cases h with
  | last h1 h2 h3 => omega
  | step h1 h2 h3 =>
    cases h3 with
    | last g1 g2 g3 => exact ⟨h2, g3⟩
    | step g1 g2 g3 => omega

theorem Runs.short {s : Nat} {d : Nat → Nat} {a e : Nat} (h : Runs lt s d a e) (hs : 0 < s) (he : e ≤ a + s) : Seg lt d a e := by
  cases h with
  | last h1 h2 h3 => exact h3
  | step h1 h2 h3 =>
    obtain rfl : e = a + s := by omega
    exact h2

theorem Seg.sep {d : Nat → Nat} {a m b : Nat} (h : Seg lt d a m) (h' : Seg lt d m b) : Sep d a m b := fun i j h1 h2 h3 h4 => by
  have := (h.2 i h1 h2).2
  have := (h'.2 j h3 h4).1
  omega
theorem Seg.both {d : Nat → Nat} {a m b : Nat} (h : Seg lt d a m) (h' : Seg lt d m b) (ham : a ≤ m) (hmb : m ≤ b) : ∀ k, a ≤ k → k < b → a ≤ d k ∧ d k < b := fun k h1 h2 => by
  by_cases hk : k < m
  · have := h.2 k h1 hk
    omega
  · have := h'.2 k (by omega) h2
    omega
end

section
variable {blk n : Nat} {lt : Nat → Nat → Bool} {g sf : Nat} {lb sb : Array Value} {I : (Nat → Nat) → World → Prop}

/-- One merge of a pass. -/
theorem pass_merge (E : SEnv blk n lt g sf lb sb I) (W : Wk lt) {s a e : Nat} {d : Nat → Nat} (hs : 0 < s) (hae : a + s < e) (he : e ≤ n) (h1 : Seg lt d a (a + s)) (h2 : Seg lt d (a + s) e) (w : World) (hI : I d w) :
    Calls Tryz.prog 275 #[.agg #[.func (.func g) #[] lb, .func (.func sf) #[] sb], .int .i64 a, .int .i64 (a + s : Nat), .int .i64 e] w fun r w' =>
      r = .returned (.tuple #[]) ∧ (∃ d', I d' w' ∧ Sh a e d d' ∧ Seg lt d' a e) ∧ Away blk w.heap.size w w' :=
  (sym_ok E W a (a + s) e (by omega) hae he d w hI h1.1 h2.1 (h1.sep h2)).mono fun r w' ⟨hr, ⟨d', g1, g2, g3⟩, hA⟩ =>
    ⟨hr, ⟨d', g1, g2, .of_sh (h1.both h2 (by omega) (by omega)) g2 g3⟩, hA⟩

set_option maxHeartbeats 1000000 in
set_option maxRecDepth 100000 in
/-- stable_func sorts, and keeps the order of what has one key. -/
theorem stable_ok (E : SEnv blk n lt g sf lb sb I) (W : Wk lt) (w : World) (hI : I (fun k => k) w) :
    Calls Tryz.prog 209 #[.agg #[.func (.func g) #[] lb, .func (.func sf) #[] sb], .int .i64 n] w fun e w' =>
      e = .returned (.tuple #[]) ∧ (∃ d', I d' w' ∧ Sh 0 n (fun k => k) d' ∧ SortedOn lt d' 0 n) ∧ Away blk w.heap.size w w' := by
  have hn := E.hn
  have HE := Lib.hid E
  have hlt := E.lt _ _ hI
  have HI1 := Lib.hid (E.alloc w _ (.cells #[.func (.func g) #[] lb, .func (.func sf) #[] sb] 267) hI)
  have HB1 := Lib.hid (away_of (below1 w (.cells #[.func (.func g) #[] lb, .func (.func sf) #[] sb] 267)) blk)
  have HC1 : Hid ((w.alloc (.cells #[.func (.func g) #[] lb, .func (.func sf) #[] sb] 267)).cell? ⟨w.heap.size, 0, none⟩ = some (.func (.func g) #[] lb) ∧ (w.alloc (.cells #[.func (.func g) #[] lb, .func (.func sf) #[] sb] 267)).cell? ⟨w.heap.size, 1, none⟩ = some (.func (.func sf) #[] sb)) := Lib.hid (by unfold World.cell?; rw [heap_alloc_new]; exact ⟨rfl, rfl⟩)
  have HW := Lib.hid W
  clear hI E W
  go_enter Tryz.func209, Tryz.ntmps209
  go_wp2_with fail
  have hsz0 := size_alloc w (.cells #[.func (.func g) #[] lb, .func (.func sf) #[] sb] 267)
  generalize hw1 : w.alloc (.cells #[.func (.func g) #[] lb, .func (.func sf) #[] sb] 267) = w1 at HI1 HB1 HC1 hsz0 ⊢
  clear hw1
  go_loopw [5, 6] (fun v5 v6 wr => ∃ (a : Nat) (d : Nat → Nat), v5 = .int .i64 a ∧ v6 = .int .i64 ((a : Int) + 20) ∧ a ≤ n ∧ Full lt 20 d a ∧ (∀ k, a ≤ k → d k = k) ∧ Sh 0 n (fun k => k) d ∧ I d wr ∧ Away blk (w.heap.size + 1) w1 wr) (fun v5 _ _ => n - (Go.RowKit.intOf v5).toNat)
  case atStart => exact ⟨0, _, rfl, rfl, Nat.zero_le _, .none, fun _ _ => rfl, .refl _ _ _, HI1.out, .refl _ _ _⟩
  case round =>
    obtain ⟨a, d, rfl, rfl, han, hfull, hid, hsh, hI, hA⟩ := hrel
    have HI := Lib.hid hI
    have HA := Lib.hid hA
    have HF := Lib.hid hfull
    have HID := Lib.hid hid
    have HSH := Lib.hid hsh
    obtain ⟨c0, c1⟩ := HC1.out
    rw [← hA.cell (by omega) (by omega)] at c0 c1
    have hsz := hA.size
    clear hI hA hfull hid hsh
    have hincr : ∀ e, ∀ x y, a ≤ x → x < y → y < e → d x < d y := fun e x y h1 h2 h3 => by rw [HID.out x h1, HID.out y (by omega)]; exact h2
    have HINC := Lib.hid hincr
    clear hincr
    by_cases hb : a + 20 ≤ n
    · have hb' : (a : Int) + 20 ≤ n := by omega
      have hs := insertion_ok HE.out HW.out a (a + 20) (by omega) hb d (HINC.out _) _ HI.out
      rw [show ((a + 20 : Nat) : Int) = (a : Int) + 20 by omega] at hs
      have HS := Lib.hid hs
      clear hs
      go_wp2_with (go_at_call 274; refine HS.out.mono ?_; rintro e w3 ⟨rfl, hI3, hA3⟩; have HI3 := Lib.hid hI3; have HA3 := Lib.hid hA3; clear hI3 hA3)
      go_roundw
      case rel =>
        obtain ⟨d', q1, q2, q3⟩ := HI3.out
        have hseg : Seg lt d' a (a + 20) := .of_sh (fun k h1 h2 => by rw [HID.out k h1]; exact ⟨h1, h2⟩) q2 q3
        exact ⟨a + 20, d', by go_num, by go_num, hb, .snoc (HF.out.congr fun k h => q2.out k (by omega)) hseg, fun k h => (q2.out k (by omega)).trans (HID.out k (by omega)), HSH.out.trans (q2.mono (by omega) (by omega)), q1, HA.out.trans (HA3.out.mono (by omega))⟩
      case measure => simp [Go.RowKit.intOf]; omega
    · have hb' : ¬ (a : Int) + 20 ≤ n := by omega
      have HS := Lib.hid (insertion_ok HE.out HW.out a n han (Nat.le_refl _) d (HINC.out _) _ HI.out)
      go_wp2_with (go_at_call 274; refine HS.out.mono ?_; rintro e w3 ⟨rfl, hI3, hA3⟩; have HI3 := Lib.hid hI3; have HA3 := Lib.hid hA3; clear hI3 hA3)
      go_loopw [4] (fun v4 wq => ∃ (s : Nat) (d : Nat → Nat), v4 = .int .i64 s ∧ 0 < s ∧ Runs lt s d 0 n ∧ Sh 0 n (fun k => k) d ∧ I d wq ∧ Away blk (w.heap.size + 1) w1 wq) (fun v4 _ => n - (Go.RowKit.intOf v4).toNat)
      case atStart =>
        obtain ⟨d', q1, q2, q3⟩ := HI3.out
        have hseg : Seg lt d' a n := .of_sh (fun k h1 h2 => by rw [HID.out k h1]; exact ⟨h1, h2⟩) q2 q3
        exact ⟨20, d', rfl, by omega, (HF.out.congr fun k h => q2.out k (by omega)).runs (.last han (by omega) hseg) han, HSH.out.trans (q2.mono (by omega) (by omega)), q1, HA.out.trans (HA3.out.mono (by omega))⟩
      case round =>
        obtain ⟨s, e, rfl, hs0, hrun, hsh, hI, hA⟩ := hrel
        have HI2 := Lib.hid hI
        have HA2 := Lib.hid hA
        have HRUN := Lib.hid hrun
        have HSH2 := Lib.hid hsh
        have hsz2 := hA.size
        clear hI hA hrun hsh c0 c1
        by_cases hsn : s < n
        · have hsn' : (s : Int) < n := by omega
          go_wp2_with fail
          go_loopw [5, 6] (fun v5 v6 wz => ∃ (a : Nat) (d : Nat → Nat), v5 = .int .i64 a ∧ v6 = .int .i64 ((a : Int) + 2 * s) ∧ a ≤ n ∧ Full lt (s + s) d a ∧ Runs lt s d a n ∧ Sh 0 n (fun k => k) d ∧ I d wz ∧ Away blk (w.heap.size + 1) w1 wz) (fun v5 _ _ => n - (Go.RowKit.intOf v5).toNat)
          case atStart => exact ⟨0, e, rfl, by go_num, Nat.zero_le _, .none, HRUN.out, HSH2.out, HI2.out, HA2.out⟩
          case round =>
            obtain ⟨x, f, rfl, rfl, hxn, hfull, hrun, hsh, hI, hA⟩ := hrel
            have HI4 := Lib.hid hI
            have HA4 := Lib.hid hA
            have HF4 := Lib.hid hfull
            have HR4 := Lib.hid hrun
            have HSH4 := Lib.hid hsh
            obtain ⟨c0, c1⟩ := HC1.out
            rw [← hA.cell (by omega) (by omega)] at c0 c1
            have hsz4 := hA.size
            clear hI hA hfull hrun hsh
            by_cases hx : x + s + s ≤ n
            · have hx' : (x : Int) + 2 * s ≤ n := by omega
              have htwo := HR4.out.two hs0 hx
              have hm := pass_merge HE.out HW.out hs0 (e := x + s + s) (by omega) hx htwo.1 htwo.2.1 _ HI4.out
              rw [show ((x + s : Nat) : Int) = (x : Int) + s by omega, show ((x + s + s : Nat) : Int) = (x : Int) + 2 * s by omega] at hm
              have HM := Lib.hid hm
              have HTWO := Lib.hid htwo.2.2
              clear hm htwo
              go_wp2_with (go_at_call 275; refine HM.out.mono ?_; rintro e w5 ⟨rfl, hI5, hA5⟩; have HI5 := Lib.hid hI5; have HA5 := Lib.hid hA5; clear hI5 hA5)
              go_roundw
              case rel =>
                obtain ⟨f', q1, q2, q3⟩ := HI5.out
                exact ⟨x + (s + s), f', by go_num, by go_num, by omega, .snoc (HF4.out.congr fun k h => q2.out k (by omega)) (by rw [← Nat.add_assoc]; exact q3), by rw [← Nat.add_assoc]; exact HTWO.out.congr fun k h _ => q2.out k (by omega), HSH4.out.trans (q2.mono (by omega) (by omega)), q1, HA4.out.trans (HA5.out.mono (by omega))⟩
              case measure => simp [Go.RowKit.intOf]; omega
            · have hx' : ¬ (x : Int) + 2 * s ≤ n := by omega
              by_cases hm : x + s < n
              · have hm' : (x : Int) + s < n := by omega
                have hone := HR4.out.one hs0 hm (by omega)
                have hmm := pass_merge HE.out HW.out hs0 (e := n) hm (Nat.le_refl _) hone.1 hone.2 _ HI4.out
                rw [show ((x + s : Nat) : Int) = (x : Int) + s by omega] at hmm
                have HM := Lib.hid hmm
                clear hmm hone
                go_wp2_with (go_at_call 275; refine HM.out.mono ?_; rintro e w5 ⟨rfl, hI5, hA5⟩; have HI5 := Lib.hid hI5; have HA5 := Lib.hid hA5; clear hI5 hA5)
                go_roundw
                case rel =>
                  obtain ⟨f', q1, q2, q3⟩ := HI5.out
                  exact ⟨s + s, f', by go_num, by omega, (HF4.out.congr fun k h => q2.out k (by omega)).runs (.last hxn (by omega) q3) hxn, HSH4.out.trans (q2.mono (by omega) (by omega)), q1, HA4.out.trans (HA5.out.mono (by omega))⟩
                case measure => simp [Go.RowKit.intOf]; omega
              · have hm' : ¬ (x : Int) + s < n := by omega
                go_wp2_with fail
                go_roundw
                case rel => exact ⟨s + s, f, by go_num, by omega, HF4.out.runs (.last hxn (by omega) (HR4.out.short hs0 (by omega))) hxn, HSH4.out, HI4.out, HA4.out⟩
                case measure => simp [Go.RowKit.intOf]; omega
        · have hsn' : ¬ (s : Int) < n := by omega
          go_wp2_with fail
          go_end0
          exact ⟨rfl, ⟨e, HI2.out, HSH2.out, (HRUN.out.short hs0 (by omega)).1⟩, HB1.out.trans (HA2.out.mono (by omega))⟩
end
end Go.Gj

/-
  sort.SliceStable: the entry.
-/
namespace Go.Gj
set_option linter.unusedSimpArgs false
set_option linter.unusedVariables false
set_option linter.unnecessarySimpa false
open Go Go.RowKit Go.Proofs Go.Lib Go.Extern

set_option maxRecDepth 100000 in
theorem info133a : (Tryz.prog.info? 133).map (·.desc) = some (.slice 136) := by kernel_rfl
theorem info133 : ∃ i, Tryz.prog.info? 133 = some i ∧ i.desc = .slice 136 := Option.map_eq_some_iff.1 info133a
set_option maxRecDepth 100000 in
theorem info136a : (Tryz.prog.info? 136).map (fun i => (i.size, i.hasPointers, i.bytes)) = some (1, true, 8) := by kernel_rfl
theorem info136 : ∃ ie, Tryz.prog.info? 136 = some ie ∧ ie.size = 1 ∧ ie.hasPointers = true ∧ ie.bytes = 8 := by
  obtain ⟨ie, h1, h2⟩ := Option.map_eq_some_iff.1 info136a
  simp only [Prod.mk.injEq] at h2
  exact ⟨ie, h1, h2⟩
theorem packed133 : Tryz.prog.packed 133 = false := by kernel_rfl
theorem kind136 (w : World) : (Extern.Rtype.kind 136).run Tryz.prog w = .ok 22 w := by kernel_rfl
theorem agg136 (w : World) : (isAgg 136).run Tryz.prog w = .ok false w := by kernel_rfl
set_option maxRecDepth 100000 in
theorem swapper1 : Tryz.prog.funcs.findIdx? (·.name == "internal/reflectlite" ++ ".Swapper$" ++ toString (1 : Nat)) = some 265 := by kernel_rfl
set_option maxRecDepth 100000 in
theorem swapper2 : Tryz.prog.funcs.findIdx? (·.name == "internal/reflectlite" ++ ".Swapper$" ++ toString (2 : Nat)) = some 266 := by kernel_rfl
set_option maxRecDepth 100000 in
theorem swapper3 : Tryz.prog.funcs.findIdx? (·.name == "internal/reflectlite" ++ ".Swapper$" ++ toString (3 : Nat)) = some 267 := by kernel_rfl

/-- The closure that Swapper hands back at a slice of pointers. -/
def swapFn (h : Value) (p : Option Addr) (n c : Nat) : Nat × Array Value := if n = 0 then (265, #[]) else if n = 1 then (266, #[]) else (267, #[.slice p n c, h])

theorem run_swapper136 (p : Option Addr) (n c : Nat) (w : World) : (ReflectliteSwapper.swapper "internal/reflectlite" (ReflectliteValue.valueError "Swapper") #[.iface 133 (.slice p n c)]).run Tryz.prog w = .ok (.func (.func (swapFn (typeHandle Tryz.prog 136) p n c).1) #[] (swapFn (typeHandle Tryz.prog 136) p n c).2) w := by
  obtain ⟨i, hi, hd⟩ := info133
  obtain ⟨ie, hie, h1, h2, h3⟩ := info136
  have hk : swapperK n ie 22 = if n = 0 then 1 else if n = 1 then 2 else 3 := by
    unfold swapperK
    by_cases h0 : n = 0
    · simp [h0]
    · by_cases h1 : n = 1
      · simp [h1]
      · simp [h0, h1, h2, h3]
  have hf : Tryz.prog.funcs.findIdx? (·.name == "internal/reflectlite" ++ ".Swapper$" ++ toString (swapperK n ie 22)) = some (swapFn (typeHandle Tryz.prog 136) p n c).1 := by
    rw [hk]
    unfold swapFn
    by_cases h0 : n = 0
    · simp only [h0, if_true]; exact swapper1
    · by_cases h1 : n = 1
      · simp only [h0, h1, if_true, if_false]; exact swapper2
      · simp only [h0, h1, if_false]; exact swapper3
  rw [run_swapper_slice 133 136 i ie hi hd hie 22 kind136 p n c _ hf w]
  have hb : (if swapperK n ie 22 ≤ 2 then (#[] : Array Value) else #[.slice p n c, typeHandle Tryz.prog 136]) = (swapFn (typeHandle Tryz.prog 136) p n c).2 := by
    rw [hk]
    unfold swapFn
    by_cases h0 : n = 0
    · simp [h0]
    · by_cases h1 : n = 1
      · simp [h1]
      · simp [h0, h1]
  rw [hb]

/-- The world in which stable_func is called. -/
def stableW (p : Option Addr) (n c : Nat) (w : World) : World :=
  (w.alloc (.cells #[.slice p n c] 133)).alloc (.cells #[.pointer (some ⟨17, 133, none⟩), .pointer (some ⟨w.heap.size, 0, none⟩), .int .u64 151] 261)

set_option maxHeartbeats 1000000 in
set_option maxRecDepth 100000 in
theorem sliceStable_of (p : Option Addr) (n c : Nat) (hn : n < 2147483648) (lf : Fn) (la lb : Array Value) (w : World) (R : World → Prop)
    (hp : Calls Tryz.prog 209 #[.agg #[.func lf la lb, .func (.func (swapFn (typeHandle Tryz.prog 136) p n c).1) #[] (swapFn (typeHandle Tryz.prog 136) p n c).2], .int .i64 n] (stableW p n c w) fun e w' => e = .returned (.tuple #[]) ∧ R w') :
    Calls Tryz.prog 158 #[.iface 133 (.slice p n c), .func lf la lb] w fun e w' => e = .returned (.tuple #[]) ∧ R w' := by
  obtain ⟨i, hi, hd⟩ := info133
  have hv := run_valueOf_slice (P := Tryz.prog) 133 136 i hi hd p n c w
  have hs := fun w => run_swapper136 p n c w
  have hl := fun a w ha => run_valueLen_slice (P := Tryz.prog) 133 136 i hi hd packed133 a p n c w ha
  unfold stableW at hp
  generalize swapFn (typeHandle Tryz.prog 136) p n c = SF at hs hp
  obtain ⟨sf, sb⟩ := SF
  simp only at hs hp
  have hg : Tryz.prog.globals.size = 17 := by kernel_rfl
  simp only [typeHandle, hg] at hv hl
  go_enter Tryz.func158, Tryz.ntmps158
  go_wp2
  rw [run_callFunc_extern Tryz.func207 (by kernel_rfl) (by kernel_rfl) (by kernel_rfl) (e := fun args => Extern.ReflectliteValue.unpack (args.getD 0 (.tuple #[]))) (by kernel_rfl),
    show Sem.run Tryz.prog ((fun args : Array Value => Extern.ReflectliteValue.unpack (args.getD 0 (.tuple #[]))) #[.iface 133 (.slice p n c)]) w = _ from hv]
  simp only [Result.andThen]
  rw [Oper.upon_value]
  go_wp2
  rw [run_callFunc_extern Tryz.func208 (by kernel_rfl) (by kernel_rfl) (by kernel_rfl) (e := Extern.ReflectliteSwapper.swapper "internal/reflectlite" (Extern.ReflectliteValue.valueError "Swapper")) (by kernel_rfl), hs]
  simp only [Result.andThen]
  rw [Oper.upon_value]
  go_wp2
  rw [run_callFunc_extern Tryz.func210 (by kernel_rfl) (by kernel_rfl) (by kernel_rfl) (e := Extern.ReflectliteValue.method (Extern.ReflectliteValue.valueError "reflectlite.Value.Len" 0) Extern.ReflectliteValue.len) (by kernel_rfl),
    hl _ _ (by simp)]
  simp only [Result.andThen]
  rw [Oper.upon_value]
  go_wp2_with (go_at_call 209; refine hp.mono ?_; rintro e w' ⟨rfl, hR⟩)
  go_end0
  exact ⟨rfl, hR⟩
end Go.Gj
