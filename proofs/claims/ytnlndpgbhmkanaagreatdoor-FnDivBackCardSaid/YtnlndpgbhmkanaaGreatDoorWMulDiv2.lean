/-
  gojq's product and quotient at integers: the switch, the functions, the doors.
-/
import Derived.Test.YtnlndpgbhmkanaaGreatDoorWMulDiv
namespace Go.Gj
open Go Go.RowKit Go.Proofs

theorem div_ints (q r : Int) (hr : r ≠ 0) (hq : -4611686018427387904 ≤ q ∧ q ≤ 4611686018427387904) (h1 : -4611686018427387904 ≤ q * r) (h2 : q * r ≤ 4611686018427387904) (w : World) : Calls Tryz.prog 117 #[.int .i64 (q * r), .int .i64 r] w fun e w' => e = .returned (.iface 3 (.int .i64 q)) ∧ w' = w := by
  have hb0 : (r == 0) = false := by simp [hr]
  by_cases hm : r = -1
  · subst hm
    have e : q * -1 = -q := by omega
    rw [e] at h1 h2 ⊢
    have HC := Lib.hid (negate_ok (-q) h1 h2 w)
    go_enter Tryz.func117, Tryz.ntmps117
    go_wp2_with (go_at_call 118; refine HC.out.mono ?_; rintro e w' ⟨rfl, rfl⟩)
    go_ret
    exact ⟨by simp, rfl⟩
  · have hb : (r == -1) = false := by simp [hm]
    have hd : (q * r).tdiv r = q := Int.mul_tdiv_cancel _ hr
    have ht : (q * r).tmod r = 0 := Int.mul_tmod_left _ _
    have hw2 : wrap64 q = q := by unfold wrap64; omega
    clear hm
    generalize q * r = v at *
    clear h1 h2 hq
    go_enter Tryz.func117, Tryz.ntmps117
    go_wp2_with fail
    go_ret
    exact ⟨by simp, rfl⟩

set_option maxRecDepth 100000 in
theorem switch_mul (l r : Int) (hl : -4611686018427387904 ≤ l ∧ l ≤ 4611686018427387904) (h1 : -4611686018427387904 ≤ l * r) (h2 : l * r ≤ 4611686018427387904) (c2 c3 c4 c5 c6 c7 : Value) (w : World) :
    Calls Tryz.prog 116 #[.iface 3 (.int .i64 l), .iface 3 (.int .i64 r), .func (.func 129) #[] #[], c2, c3, c4, c5, c6, c7] w fun e w' => e = .returned (.iface 3 (.int .i64 (l * r))) ∧ w' = w := by
  have HC := Lib.hid (mul_ints l r hl h1 h2)
  clear h1 h2 hl
  go_enter Tryz.func116, Tryz.ntmps116
  go_wp2_with (go_at_call 129; refine (HC.out _).mono ?_; rintro e w' ⟨rfl, rfl⟩)
  go_ret
  exact ⟨by simp, rfl⟩

set_option maxRecDepth 100000 in
theorem switch_div (q r : Int) (hr : r ≠ 0) (hq : -4611686018427387904 ≤ q ∧ q ≤ 4611686018427387904) (h1 : -4611686018427387904 ≤ q * r) (h2 : q * r ≤ 4611686018427387904) (c2 c3 c4 c5 c6 c7 : Value) (w : World) :
    Calls Tryz.prog 116 #[.iface 3 (.int .i64 (q * r)), .iface 3 (.int .i64 r), .func (.func 117) #[] #[], c2, c3, c4, c5, c6, c7] w fun e w' => e = .returned (.iface 3 (.int .i64 q)) ∧ w' = w := by
  have HC := Lib.hid (div_ints q r hr hq h1 h2)
  clear h1 h2 hq
  generalize q * r = v at *
  go_enter Tryz.func116, Tryz.ntmps116
  go_wp2_with (go_at_call 117; refine (HC.out _).mono ?_; rintro e w' ⟨rfl, rfl⟩)
  go_ret
  exact ⟨by simp, rfl⟩

theorem funcOpMul_ints (a l r) (hl : -4611686018427387904 ≤ l ∧ l ≤ 4611686018427387904) (h1 : -4611686018427387904 ≤ l * r) (h2 : l * r ≤ 4611686018427387904) (w : World) :
    Calls Tryz.prog 88 #[a, .iface 3 (.int .i64 l), .iface 3 (.int .i64 r)] w fun e w' => e = .returned (.iface 3 (.int .i64 (l * r))) ∧ w' = w := by
  have HC := Lib.hid (fun c2 c3 c4 c5 c6 c7 => switch_mul l r hl h1 h2 c2 c3 c4 c5 c6 c7 w)
  clear h1 h2 hl
  go_enter Tryz.func88, Tryz.ntmps88
  go_wp2_with (go_at_call 116; refine (HC.out _ _ _ _ _ _).mono ?_; rintro e w' ⟨rfl, rfl⟩)
  go_ret
  exact ⟨by simp, rfl⟩

theorem funcOpDiv_ints (a) (q r : Int) (hr : r ≠ 0) (hq : -4611686018427387904 ≤ q ∧ q ≤ 4611686018427387904) (h1 : -4611686018427387904 ≤ q * r) (h2 : q * r ≤ 4611686018427387904) (w : World) :
    Calls Tryz.prog 87 #[a, .iface 3 (.int .i64 (q * r)), .iface 3 (.int .i64 r)] w fun e w' => e = .returned (.iface 3 (.int .i64 q)) ∧ w' = w := by
  have HC := Lib.hid (fun c2 c3 c4 c5 c6 c7 => switch_div q r hr hq h1 h2 c2 c3 c4 c5 c6 c7 w)
  clear h1 h2 hq
  generalize q * r = v at *
  go_enter Tryz.func87, Tryz.ntmps87
  go_wp2_with (go_at_call 116; refine (HC.out _ _ _ _ _ _).mono ?_; rintro e w' ⟨rfl, rfl⟩)
  go_ret
  exact ⟨by simp, rfl⟩

theorem ZzOpMul_ints (l r : Int) (hl : -4611686018427387904 ≤ l ∧ l ≤ 4611686018427387904) (h1 : -4611686018427387904 ≤ l * r) (h2 : l * r ≤ 4611686018427387904) (w : World) :
    Calls Tryz.prog 64 #[.iface 3 (.int .i64 l), .iface 3 (.int .i64 r)] w fun e w' => e = .returned (.iface 3 (.int .i64 (l * r))) ∧ w' = w := by
  have HC := Lib.hid (funcOpMul_ints .nilIface l r hl h1 h2 w)
  clear h1 h2 hl
  go_enter Tryz.func64, Tryz.ntmps64
  go_wp2_with (go_at_call 88; refine HC.out.mono ?_; rintro e w' ⟨rfl, rfl⟩)
  go_ret
  exact ⟨by simp, rfl⟩

theorem ZzOpDiv_ints (q r : Int) (hr : r ≠ 0) (hq : -4611686018427387904 ≤ q ∧ q ≤ 4611686018427387904) (h1 : -4611686018427387904 ≤ q * r) (h2 : q * r ≤ 4611686018427387904) (w : World) :
    Calls Tryz.prog 63 #[.iface 3 (.int .i64 (q * r)), .iface 3 (.int .i64 r)] w fun e w' => e = .returned (.iface 3 (.int .i64 q)) ∧ w' = w := by
  have HC := Lib.hid (funcOpDiv_ints .nilIface q r hr hq h1 h2 w)
  clear h1 h2 hq
  generalize q * r = v at *
  go_enter Tryz.func63, Tryz.ntmps63
  go_wp2_with (go_at_call 87; refine HC.out.mono ?_; rintro e w' ⟨rfl, rfl⟩)
  go_ret
  exact ⟨by simp, rfl⟩
end Go.Gj
