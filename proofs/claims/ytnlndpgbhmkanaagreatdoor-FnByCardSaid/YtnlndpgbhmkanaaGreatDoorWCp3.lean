/-
  The order of exact floats; and that the order of values is one.
-/
import Derived.Test.YtnlndpgbhmkanaaGreatDoorPlG
import Derived.Test.YtnlndpgbhmkanaaGreatDoorPlP
import Derived.Test.YtnlndpgbhmkanaaGreatDoorPlX
import Derived.Test.YtnlndpgbhmkanaaGreatDoorWStE
namespace Go.Gj
open Ieee
set_option linter.unusedVariables false

/-- The word x says the number H / 2. -/
def Stands (x : Nat) (H : Int) : Prop := ∃ (s : Bool) (M : Nat) (E : Int), double.read x = .number s M E ∧ ((M = 0 ∧ H = 0) ∨ (-60 ≤ E ∧ (if s then -1 else 1) * ((M : Int) * 2 ^ (E + 60).toNat) = H * 2 ^ 59))

theorem compare_mul {a b : Int} {c : Int} (hc : 0 < c) : compare (a * c) (b * c) = compare a b := by
  rcases Int.lt_trichotomy a b with h | h | h
  · rw [Int.compare_eq_lt.2 h, Int.compare_eq_lt.2 (Int.mul_lt_mul_of_pos_right h hc)]
  · subst h; simp
  · rw [Int.compare_eq_gt.2 h, Int.compare_eq_gt.2 (Int.mul_lt_mul_of_pos_right h hc)]

theorem pow_pos' (n : Nat) : (0 : Int) < 2 ^ n := Int.pow_pos (by decide)

theorem signed_zero (s : Bool) (u : Nat) : signed s 0 u = 0 := by rw [signed_eq]; simp

theorem signed_scale {s : Bool} {M : Nat} {E b : Int} {H : Int} (hb : b ≤ E) (hb0 : -60 ≤ b) (h : (if s then -1 else 1) * ((M : Int) * 2 ^ (E + 60).toNat) = H * 2 ^ 59) : signed s M (E - b).toNat * 2 ^ (b + 60).toNat = H * 2 ^ 59 := by
  rw [signed_eq, ← h]
  have : (E + 60).toNat = (E - b).toNat + (b + 60).toNat := by omega
  rw [this, Int.pow_add]
  simp only [Int.mul_assoc]

theorem order_of_stands {x y : Nat} {H G : Int} (hx : Stands x H) (hy : Stands y G) : double.order x y = some (compare H G) := by
  obtain ⟨s, M, E, hr, hx⟩ := hx
  obtain ⟨t, N, F, hq, hy⟩ := hy
  unfold Format.order
  rw [hr, hq]
  simp only [Datum.order, Option.some.injEq]
  have p59 : (0 : Int) < 2 ^ 59 := by decide
  rcases hx with ⟨rfl, rfl⟩ | ⟨hE, hx⟩
  · rcases hy with ⟨rfl, rfl⟩ | ⟨hF, hy⟩
    · rw [signed_zero, signed_zero]
    · rw [signed_zero]
      have h1 := signed_scale (b := F) (Int.le_refl _) hF hy
      have h2 : signed t N (F - min E F).toNat * 2 ^ (F + 60).toNat = G * (2 ^ 59 * 2 ^ (F - min E F).toNat) := by
        rw [signed_eq] at h1 ⊢
        have h0 : (F - F).toNat = 0 := by omega
        rw [h0, Int.pow_zero, Int.mul_one] at h1
        rw [← Int.mul_assoc G, ← h1]
        simp only [Int.mul_assoc, Int.mul_comm, Int.mul_left_comm]
      rw [← compare_mul (pow_pos' (F + 60).toNat), h2, Int.zero_mul]
      have h3 : (0 : Int) = 0 * (2 ^ 59 * 2 ^ (F - min E F).toNat) := by simp
      conv => lhs; lhs; rw [h3]
      exact compare_mul (Int.mul_pos p59 (pow_pos' _))
  · rcases hy with ⟨rfl, rfl⟩ | ⟨hF, hy⟩
    · rw [signed_zero]
      have h1 := signed_scale (b := E) (Int.le_refl _) hE hx
      have h2 : signed s M (E - min E F).toNat * 2 ^ (E + 60).toNat = H * (2 ^ 59 * 2 ^ (E - min E F).toNat) := by
        rw [signed_eq] at h1 ⊢
        have h0 : (E - E).toNat = 0 := by omega
        rw [h0, Int.pow_zero, Int.mul_one] at h1
        rw [← Int.mul_assoc H, ← h1]
        simp only [Int.mul_assoc, Int.mul_comm, Int.mul_left_comm]
      rw [← compare_mul (pow_pos' (E + 60).toNat), h2, Int.zero_mul]
      have h3 : (0 : Int) = 0 * (2 ^ 59 * 2 ^ (E - min E F).toNat) := by simp
      conv => lhs; rhs; rw [h3]
      exact compare_mul (Int.mul_pos p59 (pow_pos' _))
    · have h1 := signed_scale (b := min E F) (by omega) (by omega) hx
      have h2 := signed_scale (b := min E F) (by omega) (by omega) hy
      rw [← compare_mul (pow_pos' (min E F + 60).toNat), h1, h2]
      exact compare_mul p59

theorem natAbs_signed (h : Int) : (if decide (h < 0) then (-1 : Int) else 1) * (h.natAbs : Int) = h := by
  by_cases hh : h < 0
  · simp [hh]; omega
  · simp [hh]; omega

theorem stands_half {h : Int} (h0 : h ≠ 0) (hb : h.natAbs < 2 ^ 53) : Stands (fl h (-1)) h := by
  refine ⟨_, _, _, read_fl h0 hb (by decide) (by decide), .inr ⟨by omega, ?_⟩⟩
  have e : ((-1 : Int) - ((52 - h.natAbs.log2 : Nat) : Int) + 60).toNat = 59 - (52 - h.natAbs.log2) := by omega
  rw [e]
  have e2 : (2 : Int) ^ 59 = 2 ^ (52 - h.natAbs.log2) * 2 ^ (59 - (52 - h.natAbs.log2)) := by rw [← Int.pow_add]; congr 1; omega
  rw [e2]
  push_cast
  rw [← Int.mul_assoc, ← Int.mul_assoc, natAbs_signed, Int.mul_assoc]

theorem stands_int {n : Int} (hb : n.natAbs ≤ 2 ^ 53) : Stands (fl n 0) (2 * n) := by
  by_cases h0 : n = 0
  · subst h0
    exact ⟨false, 0, _, (by unfold fl; decide +kernel : double.read (fl 0 0) = .number false 0 (-1074)), .inl ⟨rfl, rfl⟩⟩
  · by_cases h1 : n.natAbs < 2 ^ 53
    · refine ⟨_, _, _, read_fl h0 h1 (by decide) (by decide), .inr ⟨by omega, ?_⟩⟩
      have e : ((0 : Int) - ((52 - n.natAbs.log2 : Nat) : Int) + 60).toNat = 60 - (52 - n.natAbs.log2) := by omega
      rw [e]
      have e2 : (2 : Int) * n * 2 ^ 59 = n * (2 ^ (52 - n.natAbs.log2) * 2 ^ (60 - (52 - n.natAbs.log2))) := by
        rw [← Int.pow_add, show 52 - n.natAbs.log2 + (60 - (52 - n.natAbs.log2)) = 60 by omega]
        omega
      rw [e2]
      push_cast
      rw [← Int.mul_assoc, ← Int.mul_assoc, natAbs_signed, Int.mul_assoc]
    · have h2 : n = 2 ^ 53 ∨ n = -(2 ^ 53) := by omega
      rcases h2 with rfl | rfl
      · exact ⟨false, 2 ^ 52, 1, (by unfold fl; decide +kernel), .inr ⟨by decide, by decide⟩⟩
      · exact ⟨true, 2 ^ 52, 1, (by unfold fl; decide +kernel), .inr ⟨by decide, by decide⟩⟩
end Go.Gj

/-
  gojq.Compare: what it compares by: cmp.Compare of integers and of strings, floats, kinds.
-/
namespace Go.Gj
set_option linter.unusedSimpArgs false
set_option linter.unusedVariables false
set_option linter.unnecessarySimpa false
open Go Go.RowKit Go.Proofs

theorem isNaNInt_ok (x : Int) (w : World) : Calls Tryz.prog 211 #[.int .i64 x] w fun e w' => e = .returned (.bool false) ∧ Below w.heap.size w w' := by
  have HB := Lib.hid (Below.refl w.heap.size w)
  go_enter Tryz.func211, Tryz.ntmps211
  go_wp2_with fail
  exact bodyPost_ret (v := .bool false) (by simp [results, Tryz.results211, go_sem]) rfl ⟨rfl, HB.out⟩

theorem isNaNStr_ok (x : ByteArray) (w : World) : Calls Tryz.prog 214 #[.string x] w fun e w' => e = .returned (.bool false) ∧ Below w.heap.size w w' := by
  have HB := Lib.hid (Below.refl w.heap.size w)
  go_enter Tryz.func214, Tryz.ntmps214
  go_wp2_with fail
  exact bodyPost_ret (v := .bool false) (by simp [results, Tryz.results214, go_sem]) rfl ⟨rfl, HB.out⟩

theorem sgn_cases (n : Int) : (n < 0 ∧ sgn n = -1) ∨ (0 < n ∧ sgn n = 1) ∨ (n = 0 ∧ sgn n = 0) := by unfold sgn; repeat' split
                                                                                                     all_goals omega

set_option maxRecDepth 100000 in
theorem cmpInt_ok (x y : Int) (w : World) : Calls Tryz.prog 161 #[.int .i64 x, .int .i64 y] w fun e w' => e = .returned (.int .i64 (sgn (x - y))) ∧ Below w.heap.size w w' := by
  have HN := Lib.hid isNaNInt_ok
  have HB0 := Lib.hid (Below.refl w.heap.size w)
  have hs := sgn_cases (x - y)
  rcases hs with ⟨h, hs⟩ | ⟨h, hs⟩ | ⟨h, hs⟩
  · rw [hs]
    have h1 : x < y := by omega
    clear hs h
    go_enter Tryz.func161, Tryz.ntmps161
    go_wp2_with (first
      | (go_at_call 211; refine (HN.out x w).mono ?_; rintro e w2 ⟨rfl, hx⟩; have HB1 := Lib.hid (HB0.out.trans hx); clear hx)
      | (go_at_call 211; refine (HN.out y w2).mono ?_; rintro e w3 ⟨rfl, hx⟩; have HB2 := Lib.hid (HB1.out.trans (hx.mono HB1.out.size)); clear hx))
    exact bodyPost_ret (v := .int .i64 (-1)) (by simp [results, Tryz.results161, go_sem]) rfl ⟨rfl, HB2.out⟩
  · rw [hs]
    have h1 : ¬ x < y := by omega
    have h2 : x > y := by omega
    clear hs h
    go_enter Tryz.func161, Tryz.ntmps161
    go_wp2_with (first
      | (go_at_call 211; refine (HN.out x w).mono ?_; rintro e w2 ⟨rfl, hx⟩; have HB1 := Lib.hid (HB0.out.trans hx); clear hx)
      | (go_at_call 211; refine (HN.out y w2).mono ?_; rintro e w3 ⟨rfl, hx⟩; have HB2 := Lib.hid (HB1.out.trans (hx.mono HB1.out.size)); clear hx))
    exact bodyPost_ret (v := .int .i64 (1)) (by simp [results, Tryz.results161, go_sem]) rfl ⟨rfl, HB2.out⟩
  · rw [hs]
    have h1 : ¬ x < y := by omega
    have h2 : ¬ x > y := by omega
    clear hs h
    go_enter Tryz.func161, Tryz.ntmps161
    go_wp2_with (first
      | (go_at_call 211; refine (HN.out x w).mono ?_; rintro e w2 ⟨rfl, hx⟩; have HB1 := Lib.hid (HB0.out.trans hx); clear hx)
      | (go_at_call 211; refine (HN.out y w2).mono ?_; rintro e w3 ⟨rfl, hx⟩; have HB2 := Lib.hid (HB1.out.trans (hx.mono HB1.out.size)); clear hx))
    exact bodyPost_ret (v := .int .i64 (0)) (by simp [results, Tryz.results161, go_sem]) rfl ⟨rfl, HB2.out⟩

theorem cmpS_cases (s t : ByteArray) : (slt s t = true ∧ cmpS s t = -1) ∨ (slt s t = false ∧ (s.toList == t.toList) = false ∧ cmpS s t = 1) ∨ (slt s t = false ∧ (s.toList == t.toList) = true ∧ cmpS s t = 0) := by
  cases h1 : slt s t with
  | true => exact .inl ⟨rfl, by simp [cmpS, h1]⟩
  | false =>
    cases h2 : (s.toList == t.toList) with
    | true => exact .inr (.inr ⟨rfl, rfl, by unfold cmpS; rw [h1, h2]; rfl⟩)
    | false => exact .inr (.inl ⟨rfl, rfl, by unfold cmpS; rw [h1, h2]; rfl⟩)

set_option maxRecDepth 100000 in
theorem cmpStr_ok (x y : ByteArray) (w : World) : Calls Tryz.prog 165 #[.string x, .string y] w fun e w' => e = .returned (.int .i64 (cmpS x y)) ∧ Below w.heap.size w w' := by
  have HN := Lib.hid isNaNStr_ok
  have HB0 := Lib.hid (Below.refl w.heap.size w)
  have hs := cmpS_cases x y
  rcases hs with ⟨h1, hs⟩ | ⟨h1, h2, hs⟩ | ⟨h1, h2, hs⟩
  · rw [hs]
    unfold slt at h1
    go_enter Tryz.func165, Tryz.ntmps165
    go_wp2_with (first
      | (go_at_call 214; refine (HN.out x w).mono ?_; rintro e w2 ⟨rfl, hx⟩; have HB1 := Lib.hid (HB0.out.trans hx); clear hx)
      | (go_at_call 214; refine (HN.out y w2).mono ?_; rintro e w3 ⟨rfl, hx⟩; have HB2 := Lib.hid (HB1.out.trans (hx.mono HB1.out.size)); clear hx))
    exact bodyPost_ret (v := .int .i64 (-1)) (by simp [results, Tryz.results165, go_sem]) rfl ⟨rfl, HB2.out⟩
  · rw [hs]
    unfold slt at h1
    have h3 : (!x.toList == y.toList) = true := by rw [h2]; rfl
    go_enter Tryz.func165, Tryz.ntmps165
    go_wp2_with (first
      | (go_at_call 214; refine (HN.out x w).mono ?_; rintro e w2 ⟨rfl, hx⟩; have HB1 := Lib.hid (HB0.out.trans hx); clear hx)
      | (go_at_call 214; refine (HN.out y w2).mono ?_; rintro e w3 ⟨rfl, hx⟩; have HB2 := Lib.hid (HB1.out.trans (hx.mono HB1.out.size)); clear hx))
    exact bodyPost_ret (v := .int .i64 (1)) (by simp [results, Tryz.results165, go_sem]) rfl ⟨rfl, HB2.out⟩
  · rw [hs]
    unfold slt at h1
    have h3 : (!x.toList == y.toList) = false := by rw [h2]; rfl
    go_enter Tryz.func165, Tryz.ntmps165
    go_wp2_with (first
      | (go_at_call 214; refine (HN.out x w).mono ?_; rintro e w2 ⟨rfl, hx⟩; have HB1 := Lib.hid (HB0.out.trans hx); clear hx)
      | (go_at_call 214; refine (HN.out y w2).mono ?_; rintro e w3 ⟨rfl, hx⟩; have HB2 := Lib.hid (HB1.out.trans (hx.mono HB1.out.size)); clear hx))
    exact bodyPost_ret (v := .int .i64 (0)) (by simp [results, Tryz.results165, go_sem]) rfl ⟨rfl, HB2.out⟩

end Go.Gj

/-
  gojq.Compare: floats; kinds.
-/
namespace Go.Gj
set_option linter.unusedSimpArgs false
set_option linter.unusedVariables false
set_option linter.unnecessarySimpa false
open Go Go.RowKit Go.Proofs

theorem fo {x y : Nat} {H G : Int} (hx : Stands x H) (hy : Stands y G) : FloatKind.f64.format.order x y = some (compare H G) := order_of_stands hx hy
theorem fo_self {x : Nat} {H : Int} (hx : Stands x H) : FloatKind.f64.format.order x x = some .eq := by rw [fo hx hx]; simp

set_option maxRecDepth 100000 in
theorem isNaNF_ok {x : Nat} {H : Int} (hx : Stands x H) (w : World) : Calls Tryz.prog 212 #[.float .f64 x] w fun e w' => e = .returned (.bool false) ∧ Below w.heap.size w w' := by
  have HB := Lib.hid (Below.refl w.heap.size w)
  have o1 := fo_self hx
  clear hx
  go_enter Tryz.func212, Tryz.ntmps212
  go_wp2_with fail
  exact bodyPost_ret (v := .bool false) (by simp [results, Tryz.results212, go_sem]) rfl ⟨rfl, HB.out⟩

set_option maxRecDepth 100000 in
theorem ltF_ok {x y : Nat} {H G : Int} (hx : Stands x H) (hy : Stands y G) (w : World) : Calls Tryz.prog 163 #[.float .f64 x, .float .f64 y] w fun e w' => e = .returned (.bool (decide (H < G))) ∧ Below w.heap.size w w' := by
  have HB := Lib.hid (Below.refl w.heap.size w)
  have HN := Lib.hid (fun w => isNaNF_ok hx w)
  have o1 := fo hx hy
  clear hx hy
  by_cases h : H < G
  · rw [Int.compare_eq_lt.2 h] at o1
    rw [decide_eq_true h]
    clear h
    go_enter Tryz.func163, Tryz.ntmps163
    go_wp2_with fail
    exact bodyPost_ret (v := .bool true) (by simp [results, Tryz.results163, go_sem]) rfl ⟨rfl, HB.out⟩
  · rw [decide_eq_false h]
    rcases Int.lt_trichotomy H G with h1 | h1 | h1
    · exact absurd h1 h
    · rw [Int.compare_eq_eq.2 h1] at o1
      clear h h1
      go_enter Tryz.func163, Tryz.ntmps163
      go_wp2_with (go_at_call 212; refine (HN.out w).mono ?_; rintro e w2 ⟨rfl, hx⟩; have HB1 := Lib.hid hx; clear hx)
      exact bodyPost_ret (v := .bool false) (by simp [results, Tryz.results163, go_sem]) rfl ⟨rfl, HB1.out⟩
    · rw [Int.compare_eq_gt.2 h1] at o1
      clear h h1
      go_enter Tryz.func163, Tryz.ntmps163
      go_wp2_with (go_at_call 212; refine (HN.out w).mono ?_; rintro e w2 ⟨rfl, hx⟩; have HB1 := Lib.hid hx; clear hx)
      exact bodyPost_ret (v := .bool false) (by simp [results, Tryz.results163, go_sem]) rfl ⟨rfl, HB1.out⟩

set_option maxRecDepth 100000 in
theorem cmpF_ok {x y : Nat} {H G : Int} (hx : Stands x H) (hy : Stands y G) (w : World) : Calls Tryz.prog 162 #[.float .f64 x, .float .f64 y] w fun e w' => e = .returned (.int .i64 (sgn (H - G))) ∧ Below w.heap.size w w' := by
  have HL := Lib.hid (fun w => ltF_ok hx hy w)
  have o1 := fo hx hy
  clear hx hy
  rcases sgn_cases (H - G) with ⟨h, hs⟩ | ⟨h, hs⟩ | ⟨h, hs⟩
  · have h1 : decide (H < G) = true := decide_eq_true (by omega)
    rw [h1] at HL
    rw [hs]
    clear h h1 hs o1
    go_enter Tryz.func162, Tryz.ntmps162
    go_wp2_with (go_at_call 163; refine (HL.out w).mono ?_; rintro e w2 ⟨rfl, hx⟩; have HB1 := Lib.hid hx; clear hx)
    exact bodyPost_ret (v := .int .i64 (-1)) (by simp [results, Tryz.results162, go_sem]) rfl ⟨rfl, HB1.out⟩
  · have h1 : decide (H < G) = false := decide_eq_false (by omega)
    rw [h1] at HL
    rw [Int.compare_eq_gt.2 (by omega)] at o1
    rw [hs]
    clear h h1 hs
    go_enter Tryz.func162, Tryz.ntmps162
    go_wp2_with (go_at_call 163; refine (HL.out w).mono ?_; rintro e w2 ⟨rfl, hx⟩; have HB1 := Lib.hid hx; clear hx)
    exact bodyPost_ret (v := .int .i64 1) (by simp [results, Tryz.results162, go_sem]) rfl ⟨rfl, HB1.out⟩
  · have h1 : decide (H < G) = false := decide_eq_false (by omega)
    rw [h1] at HL
    rw [Int.compare_eq_eq.2 (by omega)] at o1
    rw [hs]
    clear h h1 hs
    go_enter Tryz.func162, Tryz.ntmps162
    go_wp2_with (go_at_call 163; refine (HL.out w).mono ?_; rintro e w2 ⟨rfl, hx⟩; have HB1 := Lib.hid hx; clear hx)
    exact bodyPost_ret (v := .int .i64 0) (by simp [results, Tryz.results162, go_sem]) rfl ⟨rfl, HB1.out⟩
end Go.Gj

/-
  gojq.Compare: the kinds' order (typeIndex, Compare$4); what a value of any may be.
-/
namespace Go.Gj
set_option linter.unusedSimpArgs false
set_option linter.unusedVariables false
set_option linter.unnecessarySimpa false
open Go Go.RowKit Go.Proofs

/-- What a value of any may be. -/
inductive Form : J → Value → Prop
  | null : Form .null .nilIface
  | bool (b : Bool) : Form (.bool b) (.iface 4 (.bool b))
  | int (n : Int) (h : n.natAbs ≤ 2 ^ 53) : Form (.num (2 * n)) (.iface 3 (.int .i64 n))
  | half (h : Int) (h0 : h ≠ 0) (hb : h.natAbs < 2 ^ 53) : Form (.num h) (.iface 79 (.float .f64 (fl h (-1))))
  | str (s : ByteArray) : Form (.str s) (.iface 9 (.string s))
  | arr (l : List J) (b o c : Nat) : Form (.arr l) (.iface 80 (.slice (some ⟨b, o, none⟩) l.length c))
  | obj (ks : List ByteArray) (vs : List J) (r : Nat) : Form (.obj ks vs) (.iface 83 (.map (some r)))

theorem ARep.form {w : World} {S : Nat → Prop} : ∀ {x : J} {g : Value}, x.ok → ARep w S x g → Form x g
  | .null, _, _, h => by obtain rfl : _ = Value.nilIface := h; exact .null
  | .bool b, _, _, h => by obtain rfl : _ = Value.iface 4 (.bool b) := h; exact .bool b
  | .num h, _, ho, hr => by
    rcases hr with ⟨h1, h2, h3, rfl⟩ | ⟨h1, h2, rfl⟩
    · obtain ⟨n, rfl⟩ : ∃ n, h = 2 * n := ⟨h / 2, by omega⟩
      have : 2 * n / 2 = n := by omega
      rw [this]
      have ho' := ho.1
      have ho2 := ho.2.1
      exact .int n (by omega)
    · exact .half h (by omega) h2
  | .str s, _, _, h => by obtain ⟨rfl, _⟩ := h; exact .str s
  | .arr l, _, _, h => by obtain ⟨b, o, c, rfl, _⟩ := h; exact .arr l b o c
  | .obj ks vs, _, _, h => by obtain ⟨r, es, clk, rfl, _⟩ := h; exact .obj ks vs r

set_option maxRecDepth 100000 in
theorem typeIndex_ok {x : J} {g : Value} (h : Form x g) (w : World) : Calls Tryz.prog 170 #[g] w fun e w' => e = .returned (.int .i64 x.kind) ∧ Below w.heap.size w w' := by
  have HB := Lib.hid (Below.refl w.heap.size w)
  cases h
  case null =>
    go_enter Tryz.func170, Tryz.ntmps170
    go_wp2_with fail
    exact bodyPost_ret (v := .int .i64 0) (by simp [results, Tryz.results170, go_sem]) rfl ⟨rfl, HB.out⟩
  case bool b =>
    cases b
    · go_enter Tryz.func170, Tryz.ntmps170
      go_wp2_with fail
      exact bodyPost_ret (v := .int .i64 1) (by simp [results, Tryz.results170, go_sem]) rfl ⟨rfl, HB.out⟩
    · go_enter Tryz.func170, Tryz.ntmps170
      go_wp2_with fail
      exact bodyPost_ret (v := .int .i64 2) (by simp [results, Tryz.results170, go_sem]) rfl ⟨rfl, HB.out⟩
  case int n h =>
    clear h
    go_enter Tryz.func170, Tryz.ntmps170
    go_wp2_with fail
    exact bodyPost_ret (v := .int .i64 3) (by simp [results, Tryz.results170, go_sem]) rfl ⟨rfl, HB.out⟩
  case half h h0 hb =>
    clear h0 hb
    generalize fl h (-1) = f
    go_enter Tryz.func170, Tryz.ntmps170
    go_wp2_with fail
    exact bodyPost_ret (v := .int .i64 3) (by simp [results, Tryz.results170, go_sem]) rfl ⟨rfl, HB.out⟩
  case str s =>
    go_enter Tryz.func170, Tryz.ntmps170
    go_wp2_with fail
    exact bodyPost_ret (v := .int .i64 4) (by simp [results, Tryz.results170, go_sem]) rfl ⟨rfl, HB.out⟩
  case arr l b o c =>
    go_enter Tryz.func170, Tryz.ntmps170
    go_wp2_with fail
    exact bodyPost_ret (v := .int .i64 5) (by simp [results, Tryz.results170, go_sem]) rfl ⟨rfl, HB.out⟩
  case obj ks vs r =>
    go_enter Tryz.func170, Tryz.ntmps170
    go_wp2_with fail
    exact bodyPost_ret (v := .int .i64 6) (by simp [results, Tryz.results170, go_sem]) rfl ⟨rfl, HB.out⟩

set_option maxRecDepth 100000 in
theorem cmpOther_ok {x y : J} {g h : Value} (hx : Form x g) (hy : Form y h) (hk : x.kind ≠ y.kind ∨ x.kind < 3) (w : World) : Calls Tryz.prog 169 #[g, h] w fun e w' => e = .returned (.int .i64 (cmpJ x y)) ∧ Below w.heap.size w w' := by
  have hc : cmpJ x y = sgn (x.kind - y.kind) := by
    by_cases he : x.kind = y.kind
    · rw [cmpJ_0 he (by omega), he]; simp [sgn]
    · exact cmpJ_ne he
  rw [hc]
  have H1 := Lib.hid (typeIndex_ok hx)
  have H2 := Lib.hid (typeIndex_ok hy)
  have H3 := Lib.hid (cmpInt_ok x.kind y.kind)
  have HB0 := Lib.hid (Below.refl w.heap.size w)
  generalize sgn (x.kind - y.kind) = r at *
  generalize x.kind = k1 at *
  generalize y.kind = k2 at *
  clear hx hy hk hc
  go_enter Tryz.func169, Tryz.ntmps169
  go_wp2_with (first
    | (go_at_call 170; (with_reducible refine (H1.out w).mono ?_); rintro e w2 ⟨rfl, hx⟩; have HB1 := Lib.hid hx; clear hx)
    | (go_at_call 170; (with_reducible refine (H2.out w2).mono ?_); rintro e w3 ⟨rfl, hx⟩; have HB2 := Lib.hid (HB1.out.trans (hx.mono HB1.out.size)); clear hx)
    | (go_at_call 161; (with_reducible refine (H3.out w3).mono ?_); rintro e w4 ⟨rfl, hx⟩; have HB3 := Lib.hid (HB2.out.trans (hx.mono HB2.out.size)); clear hx))
  exact bodyPost_ret (v := .int .i64 r) (by simp [results, Tryz.results169, go_sem]) rfl ⟨rfl, HB3.out⟩
end Go.Gj
