/-
  gojq: toInt, clampIndex, index, at values that stand for JSON.
-/
import Derived.Test.YtnlndpgbhmkanaaGreatDoorErrL
import Derived.Test.YtnlndpgbhmkanaaGreatDoorWToGo3
import Derived.Test.YtnlndpgbhmkanaaGreatDoorWHalf
import Derived.Test.YtnlndpgbhmkanaaGreatDoorPlP
import Derived.Test.YtnlndpgbhmkanaaGreatDoorReadL
namespace Go.Gj
set_option linter.unusedSimpArgs false
set_option linter.unusedVariables false
set_option linter.unnecessarySimpa false
open Go Go.RowKit Go.Proofs

theorem toInt_int (n : Int) (w : World) : Calls Tryz.prog 102 #[.iface 3 (.int .i64 n)] w fun e w' => e = .returned (.tuple #[.int .i64 n, .bool true]) ∧ w' = w := by
  go_enter Tryz.func102, Tryz.ntmps102
  go_wp2_with fail
  exact bodyPost_ret (v := .tuple #[.int .i64 n, .bool true]) (by simp [results, Tryz.results102, go_sem]) rfl ⟨rfl, rfl⟩

theorem clamp_lt (n m : Int) (h0 : 0 ≤ n) (h : n < m) (w : World) : Calls Tryz.prog 154 #[.int .i64 n, .int .i64 (-1), .int .i64 m] w fun e w' => e = .returned (.int .i64 n) ∧ w' = w := by
  have h1 : decide (n < 0) = false := by simp; omega
  have h2 : decide (n < -1) = false := by simp; omega
  have h3 : decide (n < m) = true := by simp [h]
  clear h0 h
  go_enter Tryz.func154, Tryz.ntmps154
  go_wp2_with fail
  exact bodyPost_ret (v := .int .i64 n) (by simp [results, Tryz.results154, go_sem]) rfl ⟨rfl, rfl⟩
theorem clamp_ge (n m : Int) (h0 : 0 ≤ n) (h : m ≤ n) (w : World) : Calls Tryz.prog 154 #[.int .i64 n, .int .i64 (-1), .int .i64 m] w fun e w' => e = .returned (.int .i64 m) ∧ w' = w := by
  have h1 : decide (n < 0) = false := by simp; omega
  have h2 : decide (n < -1) = false := by simp; omega
  have h3 : decide (n < m) = false := by simp; omega
  clear h0 h
  go_enter Tryz.func154, Tryz.ntmps154
  go_wp2_with fail
  exact bodyPost_ret (v := .int .i64 m) (by simp [results, Tryz.results154, go_sem]) rfl ⟨rfl, rfl⟩

theorem index_ok (l : List J) (w : World) (S : Nat → Prop) (b o c : Nat) (hc : ACells w S b l o) (hl : l.length ≤ lim) (n : Nat) (hn : n ≤ lim) :
    Calls Tryz.prog 103 #[.slice (some ⟨b, o, none⟩) l.length c, .int .i64 n] w fun e w' => ∃ g, e = .returned g ∧ w' = w ∧ ARep w S (l.getD n .null) g := by
  unfold lim at hl hn
  by_cases h : n < l.length
  · obtain ⟨cv, hcv, hr⟩ := ACells.at l o n h hc
    have HR : Hid (ARep w S (l.getD n .null) cv) := by rw [List.getD_eq_getElem?_getD, List.getElem?_eq_getElem h]; exact Lib.hid hr
    have HC := Lib.hid (clamp_lt n l.length (by omega) (by omega) w)
    have h1 : decide ((0 : Int) ≤ n) = true := by simp
    have h3 : decide ((n : Int) < l.length) = true := by simp [h]
    clear hr hc
    go_enter Tryz.func103, Tryz.ntmps103
    go_wp2_with (go_at_call 154; refine HC.out.mono ?_; rintro e w' ⟨rfl, rfl⟩)
    exact bodyPost_ret (v := cv) (by simp [results, Tryz.results103, go_sem]) rfl ⟨_, rfl, rfl, HR.out⟩
  · have HR : Hid (ARep w S (l.getD n .null) .nilIface) := by rw [List.getD_eq_getElem?_getD, List.getElem?_eq_none (by omega)]; exact Lib.hid rfl
    have HC := Lib.hid (clamp_ge n l.length (by omega) (by omega) w)
    clear hc
    go_enter Tryz.func103, Tryz.ntmps103
    go_wp2_with (go_at_call 154; refine HC.out.mono ?_; rintro e w' ⟨rfl, rfl⟩)
    exact bodyPost_ret (v := .nilIface) (by simp [results, Tryz.results103, go_sem]) rfl ⟨_, rfl, rfl, HR.out⟩
end Go.Gj

/-
  Answers of gojq's functions, as values of any: a value, or an error.
-/
namespace Go.Gj
set_option linter.unusedSimpArgs false
set_option linter.unusedVariables false
set_option linter.unnecessarySimpa false
open Go Go.RowKit Go.Proofs

theorem sz_of_ok : ∀ x : J, x.ok → x.sz
  | .null, _ => trivial
  | .bool _, _ => trivial
  | .num _, _ => trivial
  | .str _, _ => trivial
  | .arr l, h => ⟨h.1, (szs_iff l).2 fun y hy => sz_of_ok y ((oks_iff l).1 h.2 y hy)⟩
  | .obj ks vs, h => ⟨h.1, h.2.1, h.2.2.1, (szs_iff vs).2 fun y hy => sz_of_ok y ((oks_iff vs).1 h.2.2.2.2 y hy)⟩
termination_by x => SizeOf.sizeOf x
decreasing_by
  · have := List.sizeOf_lt_of_mem hy; simp; omega
  · have := List.sizeOf_lt_of_mem hy; simp; omega
/-- A value of any that stands for an answer. -/
def AnyIs (w : World) (a : Option J) (g : Value) : Prop := match a with
  | some z => ARep w (allB w) z g ∧ z.sz
  | none => IsErr g

def AnyGives (w : World) (a : Option J) (e : Ending) (w' : World) : Prop := ∃ g, e = .returned g ∧ Below w.heap.size w w' ∧ AnyIs w' a g

end Go.Gj
