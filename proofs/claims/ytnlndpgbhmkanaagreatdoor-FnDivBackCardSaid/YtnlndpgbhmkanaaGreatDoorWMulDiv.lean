/-
  gojq's product and quotient at integers.
-/
import Derived.Test.YtnlndpgbhmkanaaGreatDoorWRes
namespace Go.Gj
open Go Go.RowKit Go.Proofs

theorem negate_ok (n : Int) (h1 : -4611686018427387904 ≤ n) (h2 : n ≤ 4611686018427387904) (w : World) : Calls Tryz.prog 118 #[.int .i64 n] w fun e w' => e = .returned (.iface 3 (.int .i64 (-n))) ∧ w' = w := by
  have hb : (n == -9223372036854775808) = false := by simp; omega
  go_enter Tryz.func118, Tryz.ntmps118
  go_wp2_with fail
  go_ret
  exact ⟨rfl, rfl⟩

theorem mul_ints (l r : Int) (hl : -4611686018427387904 ≤ l ∧ l ≤ 4611686018427387904) (h1 : -4611686018427387904 ≤ l * r) (h2 : l * r ≤ 4611686018427387904) (w : World) : Calls Tryz.prog 129 #[.int .i64 l, .int .i64 r] w fun e w' => e = .returned (.iface 3 (.int .i64 (l * r))) ∧ w' = w := by
  by_cases hr : r = -1
  · subst hr
    have HC := Lib.hid (negate_ok l hl.1 hl.2 w)
    go_enter Tryz.func129, Tryz.ntmps129
    go_wp2_with (go_at_call 118; refine HC.out.mono ?_; rintro e w' ⟨rfl, rfl⟩)
    go_ret
    have e : l * -1 = -l := by omega
    exact ⟨by rw [e]; rfl, rfl⟩
  · have hb : (r == -1) = false := by simp [hr]
    by_cases h0 : r = 0
    · subst h0
      go_enter Tryz.func129, Tryz.ntmps129
      go_wp2_with fail
      go_ret
      exact ⟨by simp, rfl⟩
    · have hb0 : (r == 0) = false := by simp [h0]
      have hd : (l * r).tdiv r = l := Int.mul_tdiv_cancel _ h0
      have hw : wrap64 (l * r) = l * r := (by unfold wrap64; omega)
      have hw2 : wrap64 l = l := (by unfold wrap64; omega)
      have hbd : (wrap64 ((wrap64 (l * r)).tdiv r) == l) = true := by rw [hw, hd, hw2]; simp
      clear hr hd h1 h2 hl hbd
      go_enter Tryz.func129, Tryz.ntmps129
      go_wp2_with fail
      go_ret
      exact ⟨by simp [hw], rfl⟩
end Go.Gj
