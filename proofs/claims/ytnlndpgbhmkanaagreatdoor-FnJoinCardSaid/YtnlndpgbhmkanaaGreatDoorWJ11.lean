/-
  FnJoin: ZzJoin, Str, Whole, says, fine.
-/
import Derived.Test.YtnlndpgbhmkanaaGreatDoorWJ9
import Derived.Test.YtnlndpgbhmkanaaGreatDoorWDoorJ
import Derived.Test.YtnlndpgbhmkanaaGreatDoorLawA
namespace Go.Gj
set_option linter.unusedSimpArgs false
set_option linter.unusedVariables false
set_option linter.unnecessarySimpa false
open Go Go.RowKit Go.Proofs

theorem wantB_size (t : ByteArray) (ht : t.size ≤ 100) (p : List J) (hp : ∀ x ∈ p, joinable x) : ∀ k, (wantB t p k).size ≤ 5100 * k
  | 0 => Nat.zero_le _
  | k + 1 => by
    have ih := wantB_size t ht p hp k
    have h1 : ((jTxt (p[k]?.getD .null)).getD ⟨#[]⟩).size ≤ 5000 := by
      by_cases hk : k < p.length
      · have e : p[k]?.getD .null = p[k] := by simp [hk]
        rw [e]
        cases hj : jTxt p[k] with
        | none => exact Nat.zero_le _
        | some s => exact jTxt_size _ (hp _ (List.getElem_mem hk)) s hj
      · have e : p[k]?.getD .null = .null := by simp [hk]
        rw [e]; exact Nat.zero_le _
    have h2 : (if k = 0 then (⟨#[]⟩ : ByteArray) else t).size ≤ 100 := by split <;> first | exact Nat.zero_le _ | exact ht
    simp only [wantB, size_app]
    omega

set_option maxHeartbeats 1000000 in
set_option maxRecDepth 100000 in
theorem ZzJoin_ok (t : ByteArray) (ht : t.size ≤ 100) (p : List J) (hp : ∀ x ∈ p, joinable x) (hlen : p.length ≤ 100) (w : World) (gv gt : Value) (hgv : ARep w (allB w) (.arr p) gv) (hgt : ARep w (allB w) (.str t) gt) :
    Calls Tryz.prog 71 #[gv, gt] w (AnyGives w (some (.str (wantB t p p.length)))) := by
  have HC := Lib.hid (funcJoin_ok t ht p hp hlen w gv gt hgv hgt)
  have hs : (wantB t p p.length).size ≤ mostLen := by have := wantB_size t ht p hp p.length; unfold mostLen; omega
  clear hgv hgt
  go_enter Tryz.func71, Tryz.ntmps71
  go_wp2_with (go_at_call 92; refine HC.out.mono ?_; rintro e w' ⟨rfl, hb⟩)
  exact bodyPost_ret (v := .iface 9 (.string (wantB t p p.length))) (by simp [results, Tryz.results71, go_sem]) rfl ⟨_, rfl, hb, ⟨rfl, hs⟩, trivial⟩

/-- spec.Str. -/
theorem Str_ok (s : ByteArray) (w : World) : Calls Tryz.prog 45 #[.string s] w fun e w' => e = .returned (.agg #[.int .i64 4, .int .i64 0, .string s, .slice none 0 0, .slice none 0 0, .slice none 0 0]) ∧ Below w.heap.size w w' := by
  have hb := Lib.hid (fun o => below1 w o)
  go_enter Tryz.func45, Tryz.ntmps45
  go_wp2_with fail
  exact bodyPost_ret (v := .agg #[.int .i64 4, .int .i64 0, .string s, .slice none 0 0, .slice none 0 0, .slice none 0 0]) (by simp [results, Tryz.results45, go_sem]) rfl ⟨rfl, hb.out _⟩
set_option maxHeartbeats 400000 in
set_option maxRecDepth 100000 in
theorem fine_ok (l : List V) (w : World) (S : Nat → Prop) (a : Option Addr) (c : Nat) (hT : Tabs w) (hS : ∀ b, S b → b < w.heap.size) (h : SlOf S l.length (fun b o => VCells w S b l o) (.slice a l.length c)) :
    Calls Tryz.prog 40 #[.slice a l.length c] w fun e w' => ∃ r, e = .returned (.bool r) ∧ Below w.heap.size w w' ∧ (r = true → ∀ x ∈ l, ∃ y : J, y.fit ∧ x = y.toV) := by
  obtain ⟨a', c', hv, hn, hq⟩ := h
  obtain ⟨rfl, rfl⟩ : a = a' ∧ c = c' := by simpa using hv
  have hat : ∀ i (hi : i < l.length), ∃ b o, a = some ⟨b, o, none⟩ ∧ S b ∧ ∃ k hh t b1 n1 m1 b2 n2 m2 b3 n3 m3, w.cell? ⟨b, o + i * 6, none⟩ = some (.int .i64 k) ∧ w.cell? ⟨b, o + i * 6 + 1, none⟩ = some (.int .i64 hh) ∧ w.cell? ⟨b, o + i * 6 + 2, none⟩ = some (.string t) ∧
      w.cell? ⟨b, o + i * 6 + 3, none⟩ = some (.slice b1 n1 m1) ∧ w.cell? ⟨b, o + i * 6 + 4, none⟩ = some (.slice b2 n2 m2) ∧ w.cell? ⟨b, o + i * 6 + 5, none⟩ = some (.slice b3 n3 m3) ∧ VRep w S l[i] (.agg #[.int .i64 k, .int .i64 hh, .string t, .slice b1 n1 m1, .slice b2 n2 m2, .slice b3 n3 m3]) := by
    intro i hi
    obtain ⟨b, o, rfl, hsb, hc⟩ := hq.resolve_left (by omega)
    obtain ⟨c0, c1, c2, c3, c4, c5, h0, h1, h2, h3, h4, h5, hr⟩ := VCells.at l o i hi hc
    obtain ⟨k, hh, t, b1, n1, m1, b2, n2, m2, b3, n3, m3, hv⟩ := hr.shape
    simp only [Value.agg.injEq, Array.mk.injEq, List.cons.injEq, and_true] at hv
    obtain ⟨rfl, rfl, rfl, rfl, rfl, rfl⟩ := hv
    exact ⟨b, o, rfl, hsb, _, _, _, _, _, _, _, _, _, _, _, _, h0, h1, h2, h3, h4, h5, hr⟩
  have HAT := Lib.hid hat
  have HS := Lib.hid (fun b (hb : S b) => hS b hb)
  have HT := Lib.hid hT
  unfold mostLen at hn
  clear hv hq hat hS hT
  go_enter Tryz.func40, Tryz.ntmps40
  go_wp2_with fail
  go_loopw [3] (fun i wr => ∃ k : Nat, k ≤ l.length ∧ i = .int .i64 k ∧ Below w.heap.size w wr ∧ ∀ j (hj : j < l.length), j < k → ∃ y : J, y.fit ∧ l[j] = y.toV) (fun i _ => l.length - (RowKit.intOf i).toNat)
  case atStart => exact ⟨0, Nat.zero_le _, rfl, Below.refl _ _, fun j hj h => absurd h (Nat.not_lt_zero _)⟩
  case round =>
    obtain ⟨k, hk1, rfl, hbel, hall⟩ := hrel
    by_cases hlt : k < l.length
    · obtain ⟨b1, o1, rfl, hs1, kk, hh, t, e1, n1, m1, e2, n2, m2, e3, n3, m3, g0, g1, g2, g3, g4, g5, hr1⟩ := HAT.out k hlt
      have G := fun o => hbel.cell (p := ⟨b1, o, none⟩) (HS.out b1 hs1)
      rw [← G] at g0 g1 g2 g3 g4 g5
      clear G
      have HC := Lib.hid (Fit_fit l[k] _ S _ (HT.out.below hbel) (lt_below hbel HS.out) (VRep.keep (.of_below hbel HS.out) (fun _ h => h) _ _ hr1))
      have HBE := Lib.hid hbel
      have HAL := Lib.hid hall
      clear hr1 hbel hall
      obtain ⟨d, hd⟩ : ∃ d : Bool, decide ((4096 : Int) < (t.size : Int)) = d := ⟨_, rfl⟩
      cases d
      rotate_left
      · go_wp2_with fail
        refine bodyPost_ret (v := .bool false) (by simp [results, Tryz.results40, go_sem]) rfl ?_
        exact ⟨false, rfl, HBE.out, fun h => by cases h⟩
      go_wp2_with (go_at_call 47; refine HC.out.mono ?_; rintro e w' ⟨r, rfl, hb', hr⟩; have HBB := Lib.hid hb'; have HRR := Lib.hid hr; clear hb' hr; cases r)
      · refine bodyPost_ret (v := .bool false) (by simp [results, Tryz.results40, go_sem]) rfl ?_
        exact ⟨false, rfl, HBE.out.trans (HBB.out.mono HBE.out.size), fun h => by cases h⟩
      · go_roundw
        case rel => exact ⟨k + 1, hlt, by go_num, HBE.out.trans (HBB.out.mono HBE.out.size), fun j hj h => by
          rcases Nat.lt_succ_iff_lt_or_eq.1 h with h | rfl
          · exact HAL.out j hj h
          · exact HRR.out (by trivial)⟩
        case measure => simp [RowKit.intOf]; omega
    · have HBE := Lib.hid hbel
      have HAL : Hid (∀ x ∈ l, ∃ y : J, y.fit ∧ x = y.toV) := Lib.hid fun x hx => by
        obtain ⟨j, hj, rfl⟩ := List.getElem_of_mem hx
        exact hall j hj (by omega)
      clear hbel hall
      go_wp2_with fail
      refine bodyPost_ret (v := .bool true) (by simp [results, Tryz.results40, go_sem]) rfl ?_
      exact ⟨true, rfl, HBE.out, fun _ => HAL.out⟩

end Go.Gj

/-
  FnJoin: Whole, says.
-/
namespace Go.Gj
set_option linter.unusedSimpArgs false
set_option linter.unusedVariables false
set_option linter.unnecessarySimpa false
open Go Go.RowKit Go.Proofs

set_option maxHeartbeats 1000000 in
set_option maxRecDepth 100000 in
theorem Whole_ok (k h : Int) (t : ByteArray) (s1 s2 s3 : Value) (hh1 : -9223372036854775808 ≤ h) (hh2 : h ≤ 9223372036854775807) (w : World) :
    Calls Tryz.prog 41 #[.agg #[.int .i64 k, .int .i64 h, .string t, s1, s2, s3]] w fun e w' => ∃ n is, e = .returned (.tuple #[.int .i64 n, .bool is]) ∧ Below w.heap.size w w' ∧ (is = true → k = 3 ∧ h = 2 * n) := by
  have HB := Lib.hid (below1 w (.cells #[.int .i64 k, .int .i64 h, .string t, s1, s2, s3] 26))
  by_cases hk : k = 3
  · subst hk
    by_cases he : h.tmod 2 = 0
    · have he' : (h.tmod 2 == 0) = true := by simp [he]
      have HE := Lib.hid (Int.dvd_of_tmod_eq_zero he)
      go_enter Tryz.func41, Tryz.ntmps41
      go_wp2_with fail
      go_ret2
      exact ⟨h.tdiv 2, true, rfl, HB.out, fun _ => ⟨trivial, (Int.mul_tdiv_cancel' HE.out).symm⟩⟩
    · have he' : (h.tmod 2 == 0) = false := by simp [he]
      go_enter Tryz.func41, Tryz.ntmps41
      go_wp2_with fail
      go_ret2
      exact ⟨0, false, rfl, HB.out, fun h => by cases h⟩
  · have hk' : (k == 3) = false := by simp [hk]
    go_enter Tryz.func41, Tryz.ntmps41
    go_wp2_with fail
    go_ret2
    exact ⟨0, false, rfl, HB.out, fun h => by cases h⟩

theorem says_ok (x y : J) (w : World) (S : Nat → Prop) (c0 c1 c2 c3 c4 c5 vb : Value) (hx : x.ok) (hy : y.ok) (hS : ∀ b, S b → b < w.heap.size) (ha : JRep w S x (.agg #[c0, c1, c2, c3, c4, c5])) (hb : JRep w S y vb) :
    Calls Tryz.prog 43 #[.agg #[c0, c1, c2, c3, c4, c5, .int .i64 0], vb] w fun e w' => e = .returned (.bool (cmpJ x y == 0)) ∧ Below w.heap.size w w' := by
  obtain ⟨r1, r2, r3, rfl, _⟩ := hb.parts
  have HB := Lib.hid (below2 w (.cells #[c0, c1, c2, c3, c4, c5, .int .i64 0] 35) (.cells #[.int .i64 y.kind, .int .i64 y.half, .string y.text, r1, r2, r3] 26))
  have HC := Lib.hid (Same_ok x y _ S _ _ hx hy (lt_below HB.out hS) (ha.below HB.out hS) (hb.below HB.out hS))
  clear ha hb
  go_enter Tryz.func43, Tryz.ntmps43
  go_wp2_with (go_at_call 61; refine HC.out.mono ?_; rintro e w' ⟨rfl, hb'⟩)
  go_ret
  exact ⟨rfl, HB.out.trans (hb'.mono HB.out.size)⟩
end Go.Gj
