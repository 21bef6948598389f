/-
  binopTypeSwitch[int] over the closures of gojq.Compare. (Printed by wip/gen_bts.py.)
-/
import Derived.Test.YtnlndpgbhmkanaaGreatDoorWCp3
namespace Go.Gj
set_option linter.unusedSimpArgs false
set_option linter.unusedVariables false
set_option linter.unnecessarySimpa false
open Go Go.RowKit Go.Proofs

theorem sgn_two (a b : Int) : sgn (2 * a - 2 * b) = sgn (a - b) := by
  unfold sgn
  repeat' split
  all_goals omega

set_option maxHeartbeats 2000000 in
set_option maxRecDepth 100000 in
theorem bts_null {x y : J} {g h : Value} (hx : Form x g) (hg : g = .nilIface) (hy : Form y h) (w : World)
    (HA : ∀ sx sy, g = .iface 80 sx → h = .iface 80 sy → Calls Tryz.prog 166 #[sx, sy] w fun e w' => e = .returned (.int .i64 (cmpJ x y)) ∧ Below w.heap.size w w')
    (HO : ∀ sx sy, g = .iface 83 sx → h = .iface 83 sy → Calls Tryz.prog 167 #[sx, sy] w fun e w' => e = .returned (.int .i64 (cmpJ x y)) ∧ Below w.heap.size w w') :
    Calls Tryz.prog 160 #[g, h, .func (.func 161) #[] #[], .func (.func 162) #[] #[], .func (.func 164) #[] #[], .func (.func 165) #[] #[], .func (.func 166) #[] #[], .func (.func 167) #[] #[], .func (.func 169) #[] #[]] w fun e w' => e = .returned (.int .i64 (cmpJ x y)) ∧ Below w.heap.size w w' := by
  have HK := Lib.hid (fun hk => cmpOther_ok hx hy hk w)
  subst hg
  cases hx
  cases hy with
  | null =>
    have HC := Lib.hid (HK.out (.inr (by simp [J.kind])))
    generalize cmpJ .null .null = res at HC ⊢
    clear HA HO HK
    go_enter Tryz.func160, Tryz.ntmps160
    go_wp2_with ((first | go_at_call 169 | go_at_fn 169); refine HC.out.mono ?_; rintro e w2 ⟨rfl, hx⟩; have HB1 := Lib.hid hx; clear hx)
    exact bodyPost_ret (v := .int .i64 res) (by simp [results, Tryz.results160, go_sem]) rfl ⟨rfl, HB1.out⟩
  | bool q =>
    have HC := Lib.hid (HK.out (.inr (by simp [J.kind])))
    generalize cmpJ .null (.bool q) = res at HC ⊢
    clear HA HO HK
    go_enter Tryz.func160, Tryz.ntmps160
    go_wp2_with ((first | go_at_call 169 | go_at_fn 169); refine HC.out.mono ?_; rintro e w2 ⟨rfl, hx⟩; have HB1 := Lib.hid hx; clear hx)
    exact bodyPost_ret (v := .int .i64 res) (by simp [results, Tryz.results160, go_sem]) rfl ⟨rfl, HB1.out⟩
  | int m hm =>
    have HC := Lib.hid (HK.out (.inr (by simp [J.kind])))
    generalize cmpJ .null (.num (2 * m)) = res at HC ⊢
    clear HA HO HK
    go_enter Tryz.func160, Tryz.ntmps160
    go_wp2_with ((first | go_at_call 169 | go_at_fn 169); refine HC.out.mono ?_; rintro e w2 ⟨rfl, hx⟩; have HB1 := Lib.hid hx; clear hx)
    exact bodyPost_ret (v := .int .i64 res) (by simp [results, Tryz.results160, go_sem]) rfl ⟨rfl, HB1.out⟩
  | half j hj0 hjb =>
    have HC := Lib.hid (HK.out (.inr (by simp [J.kind])))
    generalize cmpJ .null (.num j) = res at HC ⊢
    clear HA HO HK
    go_enter Tryz.func160, Tryz.ntmps160
    go_wp2_with ((first | go_at_call 169 | go_at_fn 169); refine HC.out.mono ?_; rintro e w2 ⟨rfl, hx⟩; have HB1 := Lib.hid hx; clear hx)
    exact bodyPost_ret (v := .int .i64 res) (by simp [results, Tryz.results160, go_sem]) rfl ⟨rfl, HB1.out⟩
  | str t =>
    have HC := Lib.hid (HK.out (.inr (by simp [J.kind])))
    generalize cmpJ .null (.str t) = res at HC ⊢
    clear HA HO HK
    go_enter Tryz.func160, Tryz.ntmps160
    go_wp2_with ((first | go_at_call 169 | go_at_fn 169); refine HC.out.mono ?_; rintro e w2 ⟨rfl, hx⟩; have HB1 := Lib.hid hx; clear hx)
    exact bodyPost_ret (v := .int .i64 res) (by simp [results, Tryz.results160, go_sem]) rfl ⟨rfl, HB1.out⟩
  | arr l2 b2 o2 c2 =>
    have HC := Lib.hid (HK.out (.inr (by simp [J.kind])))
    generalize cmpJ .null (.arr l2) = res at HC ⊢
    clear HA HO HK
    go_enter Tryz.func160, Tryz.ntmps160
    go_wp2_with ((first | go_at_call 169 | go_at_fn 169); refine HC.out.mono ?_; rintro e w2 ⟨rfl, hx⟩; have HB1 := Lib.hid hx; clear hx)
    exact bodyPost_ret (v := .int .i64 res) (by simp [results, Tryz.results160, go_sem]) rfl ⟨rfl, HB1.out⟩
  | obj ls ws r2 =>
    have HC := Lib.hid (HK.out (.inr (by simp [J.kind])))
    generalize cmpJ .null (.obj ls ws) = res at HC ⊢
    clear HA HO HK
    go_enter Tryz.func160, Tryz.ntmps160
    go_wp2_with ((first | go_at_call 169 | go_at_fn 169); refine HC.out.mono ?_; rintro e w2 ⟨rfl, hx⟩; have HB1 := Lib.hid hx; clear hx)
    exact bodyPost_ret (v := .int .i64 res) (by simp [results, Tryz.results160, go_sem]) rfl ⟨rfl, HB1.out⟩

set_option maxHeartbeats 2000000 in
set_option maxRecDepth 100000 in
theorem bts_bool {x y : J} {g h : Value} (hx : Form x g) (hg : ∃ v, g = .iface 4 v) (hy : Form y h) (w : World)
    (HA : ∀ sx sy, g = .iface 80 sx → h = .iface 80 sy → Calls Tryz.prog 166 #[sx, sy] w fun e w' => e = .returned (.int .i64 (cmpJ x y)) ∧ Below w.heap.size w w')
    (HO : ∀ sx sy, g = .iface 83 sx → h = .iface 83 sy → Calls Tryz.prog 167 #[sx, sy] w fun e w' => e = .returned (.int .i64 (cmpJ x y)) ∧ Below w.heap.size w w') :
    Calls Tryz.prog 160 #[g, h, .func (.func 161) #[] #[], .func (.func 162) #[] #[], .func (.func 164) #[] #[], .func (.func 165) #[] #[], .func (.func 166) #[] #[], .func (.func 167) #[] #[], .func (.func 169) #[] #[]] w fun e w' => e = .returned (.int .i64 (cmpJ x y)) ∧ Below w.heap.size w w' := by
  have HK := Lib.hid (fun hk => cmpOther_ok hx hy hk w)
  obtain ⟨v, rfl⟩ := hg
  cases hx with
  | bool p =>
    cases hy with
    | null =>
      have HC := Lib.hid (HK.out (.inr (by cases p <;> simp [J.kind])))
      generalize cmpJ (.bool p) .null = res at HC ⊢
      clear HA HO HK
      go_enter Tryz.func160, Tryz.ntmps160
      go_wp2_with ((first | go_at_call 169 | go_at_fn 169); refine HC.out.mono ?_; rintro e w2 ⟨rfl, hx⟩; have HB1 := Lib.hid hx; clear hx)
      exact bodyPost_ret (v := .int .i64 res) (by simp [results, Tryz.results160, go_sem]) rfl ⟨rfl, HB1.out⟩
    | bool q =>
      have HC := Lib.hid (HK.out (.inr (by cases p <;> simp [J.kind])))
      generalize cmpJ (.bool p) (.bool q) = res at HC ⊢
      clear HA HO HK
      go_enter Tryz.func160, Tryz.ntmps160
      go_wp2_with ((first | go_at_call 169 | go_at_fn 169); refine HC.out.mono ?_; rintro e w2 ⟨rfl, hx⟩; have HB1 := Lib.hid hx; clear hx)
      exact bodyPost_ret (v := .int .i64 res) (by simp [results, Tryz.results160, go_sem]) rfl ⟨rfl, HB1.out⟩
    | int m hm =>
      have HC := Lib.hid (HK.out (.inr (by cases p <;> simp [J.kind])))
      generalize cmpJ (.bool p) (.num (2 * m)) = res at HC ⊢
      clear HA HO HK
      go_enter Tryz.func160, Tryz.ntmps160
      go_wp2_with ((first | go_at_call 169 | go_at_fn 169); refine HC.out.mono ?_; rintro e w2 ⟨rfl, hx⟩; have HB1 := Lib.hid hx; clear hx)
      exact bodyPost_ret (v := .int .i64 res) (by simp [results, Tryz.results160, go_sem]) rfl ⟨rfl, HB1.out⟩
    | half j hj0 hjb =>
      have HC := Lib.hid (HK.out (.inr (by cases p <;> simp [J.kind])))
      generalize cmpJ (.bool p) (.num j) = res at HC ⊢
      clear HA HO HK
      go_enter Tryz.func160, Tryz.ntmps160
      go_wp2_with ((first | go_at_call 169 | go_at_fn 169); refine HC.out.mono ?_; rintro e w2 ⟨rfl, hx⟩; have HB1 := Lib.hid hx; clear hx)
      exact bodyPost_ret (v := .int .i64 res) (by simp [results, Tryz.results160, go_sem]) rfl ⟨rfl, HB1.out⟩
    | str t =>
      have HC := Lib.hid (HK.out (.inr (by cases p <;> simp [J.kind])))
      generalize cmpJ (.bool p) (.str t) = res at HC ⊢
      clear HA HO HK
      go_enter Tryz.func160, Tryz.ntmps160
      go_wp2_with ((first | go_at_call 169 | go_at_fn 169); refine HC.out.mono ?_; rintro e w2 ⟨rfl, hx⟩; have HB1 := Lib.hid hx; clear hx)
      exact bodyPost_ret (v := .int .i64 res) (by simp [results, Tryz.results160, go_sem]) rfl ⟨rfl, HB1.out⟩
    | arr l2 b2 o2 c2 =>
      have HC := Lib.hid (HK.out (.inr (by cases p <;> simp [J.kind])))
      generalize cmpJ (.bool p) (.arr l2) = res at HC ⊢
      clear HA HO HK
      go_enter Tryz.func160, Tryz.ntmps160
      go_wp2_with ((first | go_at_call 169 | go_at_fn 169); refine HC.out.mono ?_; rintro e w2 ⟨rfl, hx⟩; have HB1 := Lib.hid hx; clear hx)
      exact bodyPost_ret (v := .int .i64 res) (by simp [results, Tryz.results160, go_sem]) rfl ⟨rfl, HB1.out⟩
    | obj ls ws r2 =>
      have HC := Lib.hid (HK.out (.inr (by cases p <;> simp [J.kind])))
      generalize cmpJ (.bool p) (.obj ls ws) = res at HC ⊢
      clear HA HO HK
      go_enter Tryz.func160, Tryz.ntmps160
      go_wp2_with ((first | go_at_call 169 | go_at_fn 169); refine HC.out.mono ?_; rintro e w2 ⟨rfl, hx⟩; have HB1 := Lib.hid hx; clear hx)
      exact bodyPost_ret (v := .int .i64 res) (by simp [results, Tryz.results160, go_sem]) rfl ⟨rfl, HB1.out⟩

set_option maxHeartbeats 2000000 in
set_option maxRecDepth 100000 in
theorem bts_int {x y : J} {g h : Value} (hx : Form x g) (hg : ∃ v, g = .iface 3 v) (hy : Form y h) (w : World)
    (HA : ∀ sx sy, g = .iface 80 sx → h = .iface 80 sy → Calls Tryz.prog 166 #[sx, sy] w fun e w' => e = .returned (.int .i64 (cmpJ x y)) ∧ Below w.heap.size w w')
    (HO : ∀ sx sy, g = .iface 83 sx → h = .iface 83 sy → Calls Tryz.prog 167 #[sx, sy] w fun e w' => e = .returned (.int .i64 (cmpJ x y)) ∧ Below w.heap.size w w') :
    Calls Tryz.prog 160 #[g, h, .func (.func 161) #[] #[], .func (.func 162) #[] #[], .func (.func 164) #[] #[], .func (.func 165) #[] #[], .func (.func 166) #[] #[], .func (.func 167) #[] #[], .func (.func 169) #[] #[]] w fun e w' => e = .returned (.int .i64 (cmpJ x y)) ∧ Below w.heap.size w w' := by
  have HK := Lib.hid (fun hk => cmpOther_ok hx hy hk w)
  obtain ⟨v, rfl⟩ := hg
  cases hx with
  | int n hn =>
    cases hy with
    | null =>
      have HC := Lib.hid (HK.out (.inl (by simp [J.kind])))
      generalize cmpJ (.num (2 * n)) .null = res at HC ⊢
      clear HA HO HK
      go_enter Tryz.func160, Tryz.ntmps160
      go_wp2_with ((first | go_at_call 169 | go_at_fn 169); refine HC.out.mono ?_; rintro e w2 ⟨rfl, hx⟩; have HB1 := Lib.hid hx; clear hx)
      exact bodyPost_ret (v := .int .i64 res) (by simp [results, Tryz.results160, go_sem]) rfl ⟨rfl, HB1.out⟩
    | bool q =>
      have HC := Lib.hid (HK.out (.inl (by cases q <;> simp [J.kind])))
      generalize cmpJ (.num (2 * n)) (.bool q) = res at HC ⊢
      clear HA HO HK
      go_enter Tryz.func160, Tryz.ntmps160
      go_wp2_with ((first | go_at_call 169 | go_at_fn 169); refine HC.out.mono ?_; rintro e w2 ⟨rfl, hx⟩; have HB1 := Lib.hid hx; clear hx)
      exact bodyPost_ret (v := .int .i64 res) (by simp [results, Tryz.results160, go_sem]) rfl ⟨rfl, HB1.out⟩
    | int m hm =>
      have HC := Lib.hid (cmpInt_ok n m w)
      have hc : sgn (n - m) = cmpJ (.num (2 * n)) (.num (2 * m)) := by simp only [cmpJ]; exact (sgn_two n m).symm
      rw [hc] at HC
      generalize cmpJ (.num (2 * n)) (.num (2 * m)) = res at HC ⊢
      clear HA HO HK
      go_enter Tryz.func160, Tryz.ntmps160
      go_wp2_with ((first | go_at_call 161 | go_at_fn 161); refine HC.out.mono ?_; rintro e w2 ⟨rfl, hx⟩; have HB1 := Lib.hid hx; clear hx)
      exact bodyPost_ret (v := .int .i64 res) (by simp [results, Tryz.results160, go_sem]) rfl ⟨rfl, HB1.out⟩
    | half j hj0 hjb =>
      have HC := Lib.hid (cmpF_ok (stands_int hn) (stands_half hj0 hjb) w)
      have hc : sgn (2 * n - j) = cmpJ (.num (2 * n)) (.num (j)) := by simp only [cmpJ]
      rw [hc] at HC
      generalize cmpJ (.num (2 * n)) (.num j) = res at HC ⊢
      clear HA HO HK
      go_enter Tryz.func160, Tryz.ntmps160
      go_wp2_with ((first | go_at_call 162 | go_at_fn 162); refine HC.out.mono ?_; rintro e w2 ⟨rfl, hx⟩; have HB1 := Lib.hid hx; clear hx)
      exact bodyPost_ret (v := .int .i64 res) (by simp [results, Tryz.results160, go_sem]) rfl ⟨rfl, HB1.out⟩
    | str t =>
      have HC := Lib.hid (HK.out (.inl (by simp [J.kind])))
      generalize cmpJ (.num (2 * n)) (.str t) = res at HC ⊢
      clear HA HO HK
      go_enter Tryz.func160, Tryz.ntmps160
      go_wp2_with ((first | go_at_call 169 | go_at_fn 169); refine HC.out.mono ?_; rintro e w2 ⟨rfl, hx⟩; have HB1 := Lib.hid hx; clear hx)
      exact bodyPost_ret (v := .int .i64 res) (by simp [results, Tryz.results160, go_sem]) rfl ⟨rfl, HB1.out⟩
    | arr l2 b2 o2 c2 =>
      have HC := Lib.hid (HK.out (.inl (by simp [J.kind])))
      generalize cmpJ (.num (2 * n)) (.arr l2) = res at HC ⊢
      clear HA HO HK
      go_enter Tryz.func160, Tryz.ntmps160
      go_wp2_with ((first | go_at_call 169 | go_at_fn 169); refine HC.out.mono ?_; rintro e w2 ⟨rfl, hx⟩; have HB1 := Lib.hid hx; clear hx)
      exact bodyPost_ret (v := .int .i64 res) (by simp [results, Tryz.results160, go_sem]) rfl ⟨rfl, HB1.out⟩
    | obj ls ws r2 =>
      have HC := Lib.hid (HK.out (.inl (by simp [J.kind])))
      generalize cmpJ (.num (2 * n)) (.obj ls ws) = res at HC ⊢
      clear HA HO HK
      go_enter Tryz.func160, Tryz.ntmps160
      go_wp2_with ((first | go_at_call 169 | go_at_fn 169); refine HC.out.mono ?_; rintro e w2 ⟨rfl, hx⟩; have HB1 := Lib.hid hx; clear hx)
      exact bodyPost_ret (v := .int .i64 res) (by simp [results, Tryz.results160, go_sem]) rfl ⟨rfl, HB1.out⟩

set_option maxHeartbeats 2000000 in
set_option maxRecDepth 100000 in
theorem bts_half {x y : J} {g h : Value} (hx : Form x g) (hg : ∃ v, g = .iface 79 v) (hy : Form y h) (w : World)
    (HA : ∀ sx sy, g = .iface 80 sx → h = .iface 80 sy → Calls Tryz.prog 166 #[sx, sy] w fun e w' => e = .returned (.int .i64 (cmpJ x y)) ∧ Below w.heap.size w w')
    (HO : ∀ sx sy, g = .iface 83 sx → h = .iface 83 sy → Calls Tryz.prog 167 #[sx, sy] w fun e w' => e = .returned (.int .i64 (cmpJ x y)) ∧ Below w.heap.size w w') :
    Calls Tryz.prog 160 #[g, h, .func (.func 161) #[] #[], .func (.func 162) #[] #[], .func (.func 164) #[] #[], .func (.func 165) #[] #[], .func (.func 166) #[] #[], .func (.func 167) #[] #[], .func (.func 169) #[] #[]] w fun e w' => e = .returned (.int .i64 (cmpJ x y)) ∧ Below w.heap.size w w' := by
  have HK := Lib.hid (fun hk => cmpOther_ok hx hy hk w)
  obtain ⟨v, rfl⟩ := hg
  cases hx with
  | half k hk0 hkb =>
    cases hy with
    | null =>
      have HC := Lib.hid (HK.out (.inl (by simp [J.kind])))
      generalize cmpJ (.num k) .null = res at HC ⊢
      clear HA HO HK
      go_enter Tryz.func160, Tryz.ntmps160
      go_wp2_with ((first | go_at_call 169 | go_at_fn 169); refine HC.out.mono ?_; rintro e w2 ⟨rfl, hx⟩; have HB1 := Lib.hid hx; clear hx)
      exact bodyPost_ret (v := .int .i64 res) (by simp [results, Tryz.results160, go_sem]) rfl ⟨rfl, HB1.out⟩
    | bool q =>
      have HC := Lib.hid (HK.out (.inl (by cases q <;> simp [J.kind])))
      generalize cmpJ (.num k) (.bool q) = res at HC ⊢
      clear HA HO HK
      go_enter Tryz.func160, Tryz.ntmps160
      go_wp2_with ((first | go_at_call 169 | go_at_fn 169); refine HC.out.mono ?_; rintro e w2 ⟨rfl, hx⟩; have HB1 := Lib.hid hx; clear hx)
      exact bodyPost_ret (v := .int .i64 res) (by simp [results, Tryz.results160, go_sem]) rfl ⟨rfl, HB1.out⟩
    | int m hm =>
      have HC := Lib.hid (cmpF_ok (stands_half hk0 hkb) (stands_int hm) w)
      have hc : sgn (k - 2 * m) = cmpJ (.num (k)) (.num (2 * m)) := by simp only [cmpJ]
      rw [hc] at HC
      generalize cmpJ (.num k) (.num (2 * m)) = res at HC ⊢
      clear HA HO HK
      go_enter Tryz.func160, Tryz.ntmps160
      go_wp2_with ((first | go_at_call 162 | go_at_fn 162); refine HC.out.mono ?_; rintro e w2 ⟨rfl, hx⟩; have HB1 := Lib.hid hx; clear hx)
      exact bodyPost_ret (v := .int .i64 res) (by simp [results, Tryz.results160, go_sem]) rfl ⟨rfl, HB1.out⟩
    | half j hj0 hjb =>
      have HC := Lib.hid (cmpF_ok (stands_half hk0 hkb) (stands_half hj0 hjb) w)
      have hc : sgn (k - j) = cmpJ (.num (k)) (.num (j)) := by simp only [cmpJ]
      rw [hc] at HC
      generalize cmpJ (.num k) (.num j) = res at HC ⊢
      clear HA HO HK
      go_enter Tryz.func160, Tryz.ntmps160
      go_wp2_with ((first | go_at_call 162 | go_at_fn 162); refine HC.out.mono ?_; rintro e w2 ⟨rfl, hx⟩; have HB1 := Lib.hid hx; clear hx)
      exact bodyPost_ret (v := .int .i64 res) (by simp [results, Tryz.results160, go_sem]) rfl ⟨rfl, HB1.out⟩
    | str t =>
      have HC := Lib.hid (HK.out (.inl (by simp [J.kind])))
      generalize cmpJ (.num k) (.str t) = res at HC ⊢
      clear HA HO HK
      go_enter Tryz.func160, Tryz.ntmps160
      go_wp2_with ((first | go_at_call 169 | go_at_fn 169); refine HC.out.mono ?_; rintro e w2 ⟨rfl, hx⟩; have HB1 := Lib.hid hx; clear hx)
      exact bodyPost_ret (v := .int .i64 res) (by simp [results, Tryz.results160, go_sem]) rfl ⟨rfl, HB1.out⟩
    | arr l2 b2 o2 c2 =>
      have HC := Lib.hid (HK.out (.inl (by simp [J.kind])))
      generalize cmpJ (.num k) (.arr l2) = res at HC ⊢
      clear HA HO HK
      go_enter Tryz.func160, Tryz.ntmps160
      go_wp2_with ((first | go_at_call 169 | go_at_fn 169); refine HC.out.mono ?_; rintro e w2 ⟨rfl, hx⟩; have HB1 := Lib.hid hx; clear hx)
      exact bodyPost_ret (v := .int .i64 res) (by simp [results, Tryz.results160, go_sem]) rfl ⟨rfl, HB1.out⟩
    | obj ls ws r2 =>
      have HC := Lib.hid (HK.out (.inl (by simp [J.kind])))
      generalize cmpJ (.num k) (.obj ls ws) = res at HC ⊢
      clear HA HO HK
      go_enter Tryz.func160, Tryz.ntmps160
      go_wp2_with ((first | go_at_call 169 | go_at_fn 169); refine HC.out.mono ?_; rintro e w2 ⟨rfl, hx⟩; have HB1 := Lib.hid hx; clear hx)
      exact bodyPost_ret (v := .int .i64 res) (by simp [results, Tryz.results160, go_sem]) rfl ⟨rfl, HB1.out⟩

set_option maxHeartbeats 2000000 in
set_option maxRecDepth 100000 in
theorem bts_str {x y : J} {g h : Value} (hx : Form x g) (hg : ∃ v, g = .iface 9 v) (hy : Form y h) (w : World)
    (HA : ∀ sx sy, g = .iface 80 sx → h = .iface 80 sy → Calls Tryz.prog 166 #[sx, sy] w fun e w' => e = .returned (.int .i64 (cmpJ x y)) ∧ Below w.heap.size w w')
    (HO : ∀ sx sy, g = .iface 83 sx → h = .iface 83 sy → Calls Tryz.prog 167 #[sx, sy] w fun e w' => e = .returned (.int .i64 (cmpJ x y)) ∧ Below w.heap.size w w') :
    Calls Tryz.prog 160 #[g, h, .func (.func 161) #[] #[], .func (.func 162) #[] #[], .func (.func 164) #[] #[], .func (.func 165) #[] #[], .func (.func 166) #[] #[], .func (.func 167) #[] #[], .func (.func 169) #[] #[]] w fun e w' => e = .returned (.int .i64 (cmpJ x y)) ∧ Below w.heap.size w w' := by
  have HK := Lib.hid (fun hk => cmpOther_ok hx hy hk w)
  obtain ⟨v, rfl⟩ := hg
  cases hx with
  | str s =>
    cases hy with
    | null =>
      have HC := Lib.hid (HK.out (.inl (by simp [J.kind])))
      generalize cmpJ (.str s) .null = res at HC ⊢
      clear HA HO HK
      go_enter Tryz.func160, Tryz.ntmps160
      go_wp2_with ((first | go_at_call 169 | go_at_fn 169); refine HC.out.mono ?_; rintro e w2 ⟨rfl, hx⟩; have HB1 := Lib.hid hx; clear hx)
      exact bodyPost_ret (v := .int .i64 res) (by simp [results, Tryz.results160, go_sem]) rfl ⟨rfl, HB1.out⟩
    | bool q =>
      have HC := Lib.hid (HK.out (.inl (by cases q <;> simp [J.kind])))
      generalize cmpJ (.str s) (.bool q) = res at HC ⊢
      clear HA HO HK
      go_enter Tryz.func160, Tryz.ntmps160
      go_wp2_with ((first | go_at_call 169 | go_at_fn 169); refine HC.out.mono ?_; rintro e w2 ⟨rfl, hx⟩; have HB1 := Lib.hid hx; clear hx)
      exact bodyPost_ret (v := .int .i64 res) (by simp [results, Tryz.results160, go_sem]) rfl ⟨rfl, HB1.out⟩
    | int m hm =>
      have HC := Lib.hid (HK.out (.inl (by simp [J.kind])))
      generalize cmpJ (.str s) (.num (2 * m)) = res at HC ⊢
      clear HA HO HK
      go_enter Tryz.func160, Tryz.ntmps160
      go_wp2_with ((first | go_at_call 169 | go_at_fn 169); refine HC.out.mono ?_; rintro e w2 ⟨rfl, hx⟩; have HB1 := Lib.hid hx; clear hx)
      exact bodyPost_ret (v := .int .i64 res) (by simp [results, Tryz.results160, go_sem]) rfl ⟨rfl, HB1.out⟩
    | half j hj0 hjb =>
      have HC := Lib.hid (HK.out (.inl (by simp [J.kind])))
      generalize cmpJ (.str s) (.num j) = res at HC ⊢
      clear HA HO HK
      go_enter Tryz.func160, Tryz.ntmps160
      go_wp2_with ((first | go_at_call 169 | go_at_fn 169); refine HC.out.mono ?_; rintro e w2 ⟨rfl, hx⟩; have HB1 := Lib.hid hx; clear hx)
      exact bodyPost_ret (v := .int .i64 res) (by simp [results, Tryz.results160, go_sem]) rfl ⟨rfl, HB1.out⟩
    | str t =>
      have HC := Lib.hid (cmpStr_ok s t w)
      have hc : cmpS s t = cmpJ (.str s) (.str t) := by simp only [cmpJ]
      rw [hc] at HC
      generalize cmpJ (.str s) (.str t) = res at HC ⊢
      clear HA HO HK
      go_enter Tryz.func160, Tryz.ntmps160
      go_wp2_with ((first | go_at_call 165 | go_at_fn 165); refine HC.out.mono ?_; rintro e w2 ⟨rfl, hx⟩; have HB1 := Lib.hid hx; clear hx)
      exact bodyPost_ret (v := .int .i64 res) (by simp [results, Tryz.results160, go_sem]) rfl ⟨rfl, HB1.out⟩
    | arr l2 b2 o2 c2 =>
      have HC := Lib.hid (HK.out (.inl (by simp [J.kind])))
      generalize cmpJ (.str s) (.arr l2) = res at HC ⊢
      clear HA HO HK
      go_enter Tryz.func160, Tryz.ntmps160
      go_wp2_with ((first | go_at_call 169 | go_at_fn 169); refine HC.out.mono ?_; rintro e w2 ⟨rfl, hx⟩; have HB1 := Lib.hid hx; clear hx)
      exact bodyPost_ret (v := .int .i64 res) (by simp [results, Tryz.results160, go_sem]) rfl ⟨rfl, HB1.out⟩
    | obj ls ws r2 =>
      have HC := Lib.hid (HK.out (.inl (by simp [J.kind])))
      generalize cmpJ (.str s) (.obj ls ws) = res at HC ⊢
      clear HA HO HK
      go_enter Tryz.func160, Tryz.ntmps160
      go_wp2_with ((first | go_at_call 169 | go_at_fn 169); refine HC.out.mono ?_; rintro e w2 ⟨rfl, hx⟩; have HB1 := Lib.hid hx; clear hx)
      exact bodyPost_ret (v := .int .i64 res) (by simp [results, Tryz.results160, go_sem]) rfl ⟨rfl, HB1.out⟩

set_option maxHeartbeats 2000000 in
set_option maxRecDepth 100000 in
theorem bts_arr {x y : J} {g h : Value} (hx : Form x g) (hg : ∃ v, g = .iface 80 v) (hy : Form y h) (w : World)
    (HA : ∀ sx sy, g = .iface 80 sx → h = .iface 80 sy → Calls Tryz.prog 166 #[sx, sy] w fun e w' => e = .returned (.int .i64 (cmpJ x y)) ∧ Below w.heap.size w w')
    (HO : ∀ sx sy, g = .iface 83 sx → h = .iface 83 sy → Calls Tryz.prog 167 #[sx, sy] w fun e w' => e = .returned (.int .i64 (cmpJ x y)) ∧ Below w.heap.size w w') :
    Calls Tryz.prog 160 #[g, h, .func (.func 161) #[] #[], .func (.func 162) #[] #[], .func (.func 164) #[] #[], .func (.func 165) #[] #[], .func (.func 166) #[] #[], .func (.func 167) #[] #[], .func (.func 169) #[] #[]] w fun e w' => e = .returned (.int .i64 (cmpJ x y)) ∧ Below w.heap.size w w' := by
  have HK := Lib.hid (fun hk => cmpOther_ok hx hy hk w)
  obtain ⟨v, rfl⟩ := hg
  cases hx with
  | arr l b o c =>
    cases hy with
    | null =>
      have HC := Lib.hid (HK.out (.inl (by simp [J.kind])))
      generalize cmpJ (.arr l) .null = res at HC ⊢
      clear HA HO HK
      go_enter Tryz.func160, Tryz.ntmps160
      go_wp2_with ((first | go_at_call 169 | go_at_fn 169); refine HC.out.mono ?_; rintro e w2 ⟨rfl, hx⟩; have HB1 := Lib.hid hx; clear hx)
      exact bodyPost_ret (v := .int .i64 res) (by simp [results, Tryz.results160, go_sem]) rfl ⟨rfl, HB1.out⟩
    | bool q =>
      have HC := Lib.hid (HK.out (.inl (by cases q <;> simp [J.kind])))
      generalize cmpJ (.arr l) (.bool q) = res at HC ⊢
      clear HA HO HK
      go_enter Tryz.func160, Tryz.ntmps160
      go_wp2_with ((first | go_at_call 169 | go_at_fn 169); refine HC.out.mono ?_; rintro e w2 ⟨rfl, hx⟩; have HB1 := Lib.hid hx; clear hx)
      exact bodyPost_ret (v := .int .i64 res) (by simp [results, Tryz.results160, go_sem]) rfl ⟨rfl, HB1.out⟩
    | int m hm =>
      have HC := Lib.hid (HK.out (.inl (by simp [J.kind])))
      generalize cmpJ (.arr l) (.num (2 * m)) = res at HC ⊢
      clear HA HO HK
      go_enter Tryz.func160, Tryz.ntmps160
      go_wp2_with ((first | go_at_call 169 | go_at_fn 169); refine HC.out.mono ?_; rintro e w2 ⟨rfl, hx⟩; have HB1 := Lib.hid hx; clear hx)
      exact bodyPost_ret (v := .int .i64 res) (by simp [results, Tryz.results160, go_sem]) rfl ⟨rfl, HB1.out⟩
    | half j hj0 hjb =>
      have HC := Lib.hid (HK.out (.inl (by simp [J.kind])))
      generalize cmpJ (.arr l) (.num j) = res at HC ⊢
      clear HA HO HK
      go_enter Tryz.func160, Tryz.ntmps160
      go_wp2_with ((first | go_at_call 169 | go_at_fn 169); refine HC.out.mono ?_; rintro e w2 ⟨rfl, hx⟩; have HB1 := Lib.hid hx; clear hx)
      exact bodyPost_ret (v := .int .i64 res) (by simp [results, Tryz.results160, go_sem]) rfl ⟨rfl, HB1.out⟩
    | str t =>
      have HC := Lib.hid (HK.out (.inl (by simp [J.kind])))
      generalize cmpJ (.arr l) (.str t) = res at HC ⊢
      clear HA HO HK
      go_enter Tryz.func160, Tryz.ntmps160
      go_wp2_with ((first | go_at_call 169 | go_at_fn 169); refine HC.out.mono ?_; rintro e w2 ⟨rfl, hx⟩; have HB1 := Lib.hid hx; clear hx)
      exact bodyPost_ret (v := .int .i64 res) (by simp [results, Tryz.results160, go_sem]) rfl ⟨rfl, HB1.out⟩
    | arr l2 b2 o2 c2 =>
      have HC := Lib.hid (HA _ _ rfl rfl)
      generalize cmpJ (.arr l) (.arr l2) = res at HC ⊢
      clear HA HO HK
      go_enter Tryz.func160, Tryz.ntmps160
      go_wp2_with ((first | go_at_call 166 | go_at_fn 166); refine HC.out.mono ?_; rintro e w2 ⟨rfl, hx⟩; have HB1 := Lib.hid hx; clear hx)
      exact bodyPost_ret (v := .int .i64 res) (by simp [results, Tryz.results160, go_sem]) rfl ⟨rfl, HB1.out⟩
    | obj ls ws r2 =>
      have HC := Lib.hid (HK.out (.inl (by simp [J.kind])))
      generalize cmpJ (.arr l) (.obj ls ws) = res at HC ⊢
      clear HA HO HK
      go_enter Tryz.func160, Tryz.ntmps160
      go_wp2_with ((first | go_at_call 169 | go_at_fn 169); refine HC.out.mono ?_; rintro e w2 ⟨rfl, hx⟩; have HB1 := Lib.hid hx; clear hx)
      exact bodyPost_ret (v := .int .i64 res) (by simp [results, Tryz.results160, go_sem]) rfl ⟨rfl, HB1.out⟩

set_option maxHeartbeats 2000000 in
set_option maxRecDepth 100000 in
theorem bts_obj {x y : J} {g h : Value} (hx : Form x g) (hg : ∃ v, g = .iface 83 v) (hy : Form y h) (w : World)
    (HA : ∀ sx sy, g = .iface 80 sx → h = .iface 80 sy → Calls Tryz.prog 166 #[sx, sy] w fun e w' => e = .returned (.int .i64 (cmpJ x y)) ∧ Below w.heap.size w w')
    (HO : ∀ sx sy, g = .iface 83 sx → h = .iface 83 sy → Calls Tryz.prog 167 #[sx, sy] w fun e w' => e = .returned (.int .i64 (cmpJ x y)) ∧ Below w.heap.size w w') :
    Calls Tryz.prog 160 #[g, h, .func (.func 161) #[] #[], .func (.func 162) #[] #[], .func (.func 164) #[] #[], .func (.func 165) #[] #[], .func (.func 166) #[] #[], .func (.func 167) #[] #[], .func (.func 169) #[] #[]] w fun e w' => e = .returned (.int .i64 (cmpJ x y)) ∧ Below w.heap.size w w' := by
  have HK := Lib.hid (fun hk => cmpOther_ok hx hy hk w)
  obtain ⟨v, rfl⟩ := hg
  cases hx with
  | obj ks vs r =>
    cases hy with
    | null =>
      have HC := Lib.hid (HK.out (.inl (by simp [J.kind])))
      generalize cmpJ (.obj ks vs) .null = res at HC ⊢
      clear HA HO HK
      go_enter Tryz.func160, Tryz.ntmps160
      go_wp2_with ((first | go_at_call 169 | go_at_fn 169); refine HC.out.mono ?_; rintro e w2 ⟨rfl, hx⟩; have HB1 := Lib.hid hx; clear hx)
      exact bodyPost_ret (v := .int .i64 res) (by simp [results, Tryz.results160, go_sem]) rfl ⟨rfl, HB1.out⟩
    | bool q =>
      have HC := Lib.hid (HK.out (.inl (by cases q <;> simp [J.kind])))
      generalize cmpJ (.obj ks vs) (.bool q) = res at HC ⊢
      clear HA HO HK
      go_enter Tryz.func160, Tryz.ntmps160
      go_wp2_with ((first | go_at_call 169 | go_at_fn 169); refine HC.out.mono ?_; rintro e w2 ⟨rfl, hx⟩; have HB1 := Lib.hid hx; clear hx)
      exact bodyPost_ret (v := .int .i64 res) (by simp [results, Tryz.results160, go_sem]) rfl ⟨rfl, HB1.out⟩
    | int m hm =>
      have HC := Lib.hid (HK.out (.inl (by simp [J.kind])))
      generalize cmpJ (.obj ks vs) (.num (2 * m)) = res at HC ⊢
      clear HA HO HK
      go_enter Tryz.func160, Tryz.ntmps160
      go_wp2_with ((first | go_at_call 169 | go_at_fn 169); refine HC.out.mono ?_; rintro e w2 ⟨rfl, hx⟩; have HB1 := Lib.hid hx; clear hx)
      exact bodyPost_ret (v := .int .i64 res) (by simp [results, Tryz.results160, go_sem]) rfl ⟨rfl, HB1.out⟩
    | half j hj0 hjb =>
      have HC := Lib.hid (HK.out (.inl (by simp [J.kind])))
      generalize cmpJ (.obj ks vs) (.num j) = res at HC ⊢
      clear HA HO HK
      go_enter Tryz.func160, Tryz.ntmps160
      go_wp2_with ((first | go_at_call 169 | go_at_fn 169); refine HC.out.mono ?_; rintro e w2 ⟨rfl, hx⟩; have HB1 := Lib.hid hx; clear hx)
      exact bodyPost_ret (v := .int .i64 res) (by simp [results, Tryz.results160, go_sem]) rfl ⟨rfl, HB1.out⟩
    | str t =>
      have HC := Lib.hid (HK.out (.inl (by simp [J.kind])))
      generalize cmpJ (.obj ks vs) (.str t) = res at HC ⊢
      clear HA HO HK
      go_enter Tryz.func160, Tryz.ntmps160
      go_wp2_with ((first | go_at_call 169 | go_at_fn 169); refine HC.out.mono ?_; rintro e w2 ⟨rfl, hx⟩; have HB1 := Lib.hid hx; clear hx)
      exact bodyPost_ret (v := .int .i64 res) (by simp [results, Tryz.results160, go_sem]) rfl ⟨rfl, HB1.out⟩
    | arr l2 b2 o2 c2 =>
      have HC := Lib.hid (HK.out (.inl (by simp [J.kind])))
      generalize cmpJ (.obj ks vs) (.arr l2) = res at HC ⊢
      clear HA HO HK
      go_enter Tryz.func160, Tryz.ntmps160
      go_wp2_with ((first | go_at_call 169 | go_at_fn 169); refine HC.out.mono ?_; rintro e w2 ⟨rfl, hx⟩; have HB1 := Lib.hid hx; clear hx)
      exact bodyPost_ret (v := .int .i64 res) (by simp [results, Tryz.results160, go_sem]) rfl ⟨rfl, HB1.out⟩
    | obj ls ws r2 =>
      have HC := Lib.hid (HO _ _ rfl rfl)
      generalize cmpJ (.obj ks vs) (.obj ls ws) = res at HC ⊢
      clear HA HO HK
      go_enter Tryz.func160, Tryz.ntmps160
      go_wp2_with ((first | go_at_call 167 | go_at_fn 167); refine HC.out.mono ?_; rintro e w2 ⟨rfl, hx⟩; have HB1 := Lib.hid hx; clear hx)
      exact bodyPost_ret (v := .int .i64 res) (by simp [results, Tryz.results160, go_sem]) rfl ⟨rfl, HB1.out⟩

theorem bts_ok {x y : J} {g h : Value} (hx : Form x g) (hy : Form y h) (w : World)
    (HA : ∀ sx sy, g = .iface 80 sx → h = .iface 80 sy → Calls Tryz.prog 166 #[sx, sy] w fun e w' => e = .returned (.int .i64 (cmpJ x y)) ∧ Below w.heap.size w w')
    (HO : ∀ sx sy, g = .iface 83 sx → h = .iface 83 sy → Calls Tryz.prog 167 #[sx, sy] w fun e w' => e = .returned (.int .i64 (cmpJ x y)) ∧ Below w.heap.size w w') :
    Calls Tryz.prog 160 #[g, h, .func (.func 161) #[] #[], .func (.func 162) #[] #[], .func (.func 164) #[] #[], .func (.func 165) #[] #[], .func (.func 166) #[] #[], .func (.func 167) #[] #[], .func (.func 169) #[] #[]] w fun e w' => e = .returned (.int .i64 (cmpJ x y)) ∧ Below w.heap.size w w' := by
  have h0 := hx
  cases h0 with
  | null => exact bts_null hx rfl hy w HA HO
  | bool p => exact bts_bool hx ⟨_, rfl⟩ hy w HA HO
  | int n hn => exact bts_int hx ⟨_, rfl⟩ hy w HA HO
  | half k hk0 hkb => exact bts_half hx ⟨_, rfl⟩ hy w HA HO
  | str s => exact bts_str hx ⟨_, rfl⟩ hy w HA HO
  | arr l b o c => exact bts_arr hx ⟨_, rfl⟩ hy w HA HO
  | obj ks vs r => exact bts_obj hx ⟨_, rfl⟩ hy w HA HO
end Go.Gj
