/-
  gojq: toInt, clampIndex, index, at values that stand for JSON.
-/
import Derived.Test.YtnlndpgbhmkanaaGreatDoorErrL
import Derived.Test.YtnlndpgbhmkanaaGreatDoorWToGo3
import Derived.Test.YtnlndpgbhmkanaaGreatDoorAnsL
import Derived.Test.YtnlndpgbhmkanaaGreatDoorLookL
namespace Go.Gj
set_option linter.unusedSimpArgs false
set_option linter.unusedVariables false
set_option linter.unnecessarySimpa false
open Go Go.RowKit Go.Proofs

theorem toInt_int (n : Int) (w : World) : Calls Tryz.prog 102 #[.iface 3 (.int .i64 n)] w fun e w' => e = .returned (.tuple #[.int .i64 n, .bool true]) ∧ w' = w := by
  go_enter Tryz.func102, Tryz.ntmps102
  go_wp2_with fail
  exact bodyPost_ret (v := .tuple #[.int .i64 n, .bool true]) (by simp [results, Tryz.results102, go_sem]) rfl ⟨rfl, rfl⟩

theorem clamp_lt (n m : Int) (h0 : 0 ≤ n) (h : n < m) (w : World) : Calls Tryz.prog 154 #[.int .i64 n, .int .i64 (-1), .int .i64 m] w fun e w' => e = .returned (.int .i64 n) ∧ w' = w := by
  have h1 : decide (n < 0) = false := by simp; omega
  have h2 : decide (n < -1) = false := by simp; omega
  have h3 : decide (n < m) = true := by simp [h]
  clear h0 h
  go_enter Tryz.func154, Tryz.ntmps154
  go_wp2_with fail
  exact bodyPost_ret (v := .int .i64 n) (by simp [results, Tryz.results154, go_sem]) rfl ⟨rfl, rfl⟩
theorem clamp_ge (n m : Int) (h0 : 0 ≤ n) (h : m ≤ n) (w : World) : Calls Tryz.prog 154 #[.int .i64 n, .int .i64 (-1), .int .i64 m] w fun e w' => e = .returned (.int .i64 m) ∧ w' = w := by
  have h1 : decide (n < 0) = false := by simp; omega
  have h2 : decide (n < -1) = false := by simp; omega
  have h3 : decide (n < m) = false := by simp; omega
  clear h0 h
  go_enter Tryz.func154, Tryz.ntmps154
  go_wp2_with fail
  exact bodyPost_ret (v := .int .i64 m) (by simp [results, Tryz.results154, go_sem]) rfl ⟨rfl, rfl⟩

theorem index_ok (l : List J) (w : World) (S : Nat → Prop) (b o c : Nat) (hc : ACells w S b l o) (hl : l.length ≤ lim) (n : Nat) (hn : n ≤ lim) :
    Calls Tryz.prog 103 #[.slice (some ⟨b, o, none⟩) l.length c, .int .i64 n] w fun e w' => ∃ g, e = .returned g ∧ w' = w ∧ ARep w S (l.getD n .null) g := by
  unfold lim at hl hn
  by_cases h : n < l.length
  · obtain ⟨cv, hcv, hr⟩ := ACells.at l o n h hc
    have HR : Hid (ARep w S (l.getD n .null) cv) := by rw [List.getD_eq_getElem?_getD, List.getElem?_eq_getElem h]; exact Lib.hid hr
    have HC := Lib.hid (clamp_lt n l.length (by omega) (by omega) w)
    have h1 : decide ((0 : Int) ≤ n) = true := by simp
    have h3 : decide ((n : Int) < l.length) = true := by simp [h]
    clear hr hc
    go_enter Tryz.func103, Tryz.ntmps103
    go_wp2_with (go_at_call 154; refine HC.out.mono ?_; rintro e w' ⟨rfl, rfl⟩)
    exact bodyPost_ret (v := cv) (by simp [results, Tryz.results103, go_sem]) rfl ⟨_, rfl, rfl, HR.out⟩
  · have HR : Hid (ARep w S (l.getD n .null) .nilIface) := by rw [List.getD_eq_getElem?_getD, List.getElem?_eq_none (by omega)]; exact Lib.hid rfl
    have HC := Lib.hid (clamp_ge n l.length (by omega) (by omega) w)
    clear hc
    go_enter Tryz.func103, Tryz.ntmps103
    go_wp2_with (go_at_call 154; refine HC.out.mono ?_; rintro e w' ⟨rfl, rfl⟩)
    exact bodyPost_ret (v := .nilIface) (by simp [results, Tryz.results103, go_sem]) rfl ⟨_, rfl, rfl, HR.out⟩
end Go.Gj

/-
  gojq: funcIndex2, at a key that is a text or a number from 0 on.
-/
namespace Go.Gj
set_option linter.unusedSimpArgs false
set_option linter.unusedVariables false
set_option linter.unnecessarySimpa false
open Go Go.RowKit Go.Proofs

set_option maxRecDepth 100000 in
theorem idx2_err_obj (gt : TypeId) (gv : Value) (s : ByteArray) (w : World) (ha : ∀ w', (Instr.typeAssert (.iface gt gv) 20 83 true).run Tryz.prog w' = .ok (.tuple #[.map none, .bool false]) w') :
    Calls Tryz.prog 78 #[.nilIface, .iface gt gv, .iface 9 (.string s)] w (AnyGives w none) := by
  have HB := Lib.hid (below1 w (.cells #[.iface gt gv] 108))
  go_enter Tryz.func78, Tryz.ntmps78
  go_wp2_with fail
  exact bodyPost_ret (v := .iface 106 (.pointer (some ⟨w.heap.size, 0, none⟩))) (by simp [results, Tryz.results78, go_sem]) rfl ⟨_, rfl, HB.out, err_106 _⟩

set_option maxRecDepth 100000 in
theorem idx2_err_arr (gt : TypeId) (gv : Value) (n : Int) (w : World) (ha : ∀ w', (Instr.typeAssert (.iface gt gv) 20 80 true).run Tryz.prog w' = .ok (.tuple #[.slice none 0 0, .bool false]) w') (hs : ∀ w', (Instr.typeAssert (.iface gt gv) 20 9 true).run Tryz.prog w' = .ok (.tuple #[.string ⟨#[]⟩, .bool false]) w') :
    Calls Tryz.prog 78 #[.nilIface, .iface gt gv, .iface 3 (.int .i64 n)] w (AnyGives w none) := by
  have HB := Lib.hid (below1 w (.cells #[.iface gt gv] 115))
  have HC := Lib.hid (fun w' => toInt_int n w')
  go_enter Tryz.func78, Tryz.ntmps78
  go_wp2_with (go_at_call 102; refine (HC.out _).mono ?_; rintro e w ⟨rfl, rfl⟩)
  exact bodyPost_ret (v := .iface 114 (.pointer (some ⟨w.heap.size, 0, none⟩))) (by simp [results, Tryz.results78, go_sem]) rfl ⟨_, rfl, HB.out, err_114 _⟩

set_option maxRecDepth 100000 in
theorem idx2_null_str (s : ByteArray) (w : World) : Calls Tryz.prog 78 #[.nilIface, .nilIface, .iface 9 (.string s)] w (AnyGives w (some .null)) := by
  go_enter Tryz.func78, Tryz.ntmps78
  go_wp2_with fail
  exact bodyPost_ret (v := .nilIface) (by simp [results, Tryz.results78, go_sem]) rfl ⟨_, rfl, Below.refl _ _, rfl, trivial⟩

set_option maxRecDepth 100000 in
theorem idx2_null_num (n : Int) (w : World) : Calls Tryz.prog 78 #[.nilIface, .nilIface, .iface 3 (.int .i64 n)] w (AnyGives w (some .null)) := by
  have HC := Lib.hid (fun w' => toInt_int n w')
  go_enter Tryz.func78, Tryz.ntmps78
  go_wp2_with (go_at_call 102; refine (HC.out _).mono ?_; rintro e w' ⟨rfl, rfl⟩)
  exact bodyPost_ret (v := .nilIface) (by simp [results, Tryz.results78, go_sem]) rfl ⟨_, rfl, Below.refl _ _, rfl, trivial⟩

set_option maxRecDepth 100000 in
theorem idx2_obj (r : Nat) (s : ByteArray) (g : Value) (z : J) (w : World) (hl : ∀ w', w'.heap[r]? = w.heap[r]? → (Instr.lookup 83 (.map (some r)) (.string s) false).run Tryz.prog w' = .ok g w') (hg : ARep w (allB w) z g) (hz : z.sz) :
    Calls Tryz.prog 78 #[.nilIface, .iface 83 (.map (some r)), .iface 9 (.string s)] w (AnyGives w (some z)) := by
  have HG := Lib.hid (And.intro hg hz)
  have hlk := hl w rfl
  clear hl hg hz
  go_enter Tryz.func78, Tryz.ntmps78
  go_wp2_with fail
  exact bodyPost_ret (v := g) (by simp [results, Tryz.results78, go_sem]) rfl ⟨_, rfl, Below.refl _ _, HG.out⟩

set_option maxRecDepth 100000 in
theorem idx2_arr (l : List J) (b o c : Nat) (n : Nat) (w : World) (hc : ACells w (allB w) b l o) (hl : l.length ≤ lim) (hn : n ≤ lim) (hz : ∀ y ∈ l, y.sz) :
    Calls Tryz.prog 78 #[.nilIface, .iface 80 (.slice (some ⟨b, o, none⟩) l.length c), .iface 3 (.int .i64 n)] w (AnyGives w (some (l.getD n .null))) := by
  have HC := Lib.hid (fun w' => toInt_int n w')
  have HI := Lib.hid (index_ok l w (allB w) b o c hc hl n hn)
  have HZ : Hid (l.getD n .null).sz := by
    by_cases h : n < l.length
    · rw [List.getD_eq_getElem?_getD, List.getElem?_eq_getElem h]; exact Lib.hid (hz _ (List.getElem_mem _))
    · rw [List.getD_eq_getElem?_getD, List.getElem?_eq_none (by omega)]; exact Lib.hid trivial
  clear hc hl hn hz
  go_enter Tryz.func78, Tryz.ntmps78
  go_wp2_with (first | (go_at_call 102; refine (HC.out _).mono ?_; rintro e w' ⟨rfl, rfl⟩) | (go_at_call 103; refine HI.out.mono ?_; rintro e w' ⟨g, rfl, rfl, hg⟩; have HG := Lib.hid hg; clear hg))
  exact bodyPost_ret (v := g) (by simp [results, Tryz.results78, go_sem]) rfl ⟨_, rfl, Below.refl _ _, HG.out, HZ.out⟩

/-- gojq's funcIndex2. -/
theorem idx2_ok (v k : J) (hk : keyOk k) (hs : strange v k = false) (hv : v.ok) (w : World) (gv gk : Value) (hgv : ARep w (allB w) v gv) (hgk : ARep w (allB w) k gk) :
    Calls Tryz.prog 78 #[.nilIface, gv, gk] w (AnyGives w (idxJ v k)) := by
  cases k with
  | str s =>
    obtain rfl : gk = .iface 9 (.string s) := hgk.1
    cases v with
    | null => obtain rfl : gv = .nilIface := hgv; exact idx2_null_str s w
    | bool b => obtain rfl : gv = .iface 4 (.bool b) := hgv; exact idx2_err_obj _ _ s w (fun w' => as_4_83 _ w')
    | num n =>
      rcases hgv with ⟨_, _, _, rfl⟩ | ⟨_, _, rfl⟩
      · exact idx2_err_obj _ _ s w (fun w' => as_3_83 _ w')
      · exact idx2_err_obj _ _ s w (fun w' => as_79_83 _ w')
    | str t => obtain rfl : gv = .iface 9 (.string t) := hgv.1; exact idx2_err_obj _ _ s w (fun w' => as_9_83 _ w')
    | arr l => obtain ⟨b, o, c, rfl, _⟩ := hgv; exact idx2_err_obj _ _ s w (fun w' => as_80_83 _ w')
    | obj ks vs =>
      obtain ⟨r, es, clk, rfl, _, hh, _, hp, _, ha⟩ := hgv
      obtain ⟨g, _, _, hl, hg⟩ := obj_lookup hh hp hv.2.2.1 hv.1 ha s false
      exact idx2_obj r s g _ w (fun w' h => hl w' (h.trans hh)) hg (sz_of_ok _ (by
        have := (oks_iff vs).1 hv.2.2.2.2
        by_cases hm : s ∈ ks
        · obtain ⟨i, hi, rfl⟩ := List.getElem_of_mem hm
          rw [getK_at ks vs (rises_nodup hv.2.2.1) i hi (by have := hv.1; omega)]
          exact this _ (List.getElem_mem _)
        · rw [getK_none ks vs s hm]; trivial))
  | num h =>
    obtain ⟨h1, h2, h3⟩ := hk
    obtain rfl : gk = .iface 3 (.int .i64 (h / 2)) := by
      rcases hgk with ⟨_, _, _, rfl⟩ | ⟨h', _⟩
      · rfl
      · omega
    cases v with
    | null => obtain rfl : gv = .nilIface := hgv; exact idx2_null_num _ w
    | bool b => obtain rfl : gv = .iface 4 (.bool b) := hgv; exact idx2_err_arr _ _ _ w (fun w' => as_4_80 _ w') (fun w' => as_4_9 _ w')
    | num n =>
      rcases hgv with ⟨_, _, _, rfl⟩ | ⟨_, _, rfl⟩
      · exact idx2_err_arr _ _ _ w (fun w' => as_3_80 _ w') (fun w' => as_3_9 _ w')
      · exact idx2_err_arr _ _ _ w (fun w' => as_79_80 _ w') (fun w' => as_79_9 _ w')
    | str t => cases hs
    | arr l =>
      obtain ⟨b, o, c, rfl, _, _, hc⟩ := hgv
      obtain ⟨n, hn⟩ : ∃ n : Nat, h / 2 = n := ⟨(h / 2).toNat, by omega⟩
      have hoks := (oks_iff l).1 hv.2
      rw [show idxJ (.arr l) (.num h) = some (l.getD (h / 2).toNat .null) from rfl, hn, Int.toNat_natCast]
      exact idx2_arr l b o c n w hc hv.1 (by unfold lim; omega) (fun y hy => sz_of_ok y (hoks y hy))
    | obj ks vs => obtain ⟨r, es, clk, rfl, _⟩ := hgv; exact idx2_err_arr _ _ _ w (fun w' => as_83_80 _ w') (fun w' => as_83_9 _ w')
  | _ => exact hk.elim

/-- gojq's ZzIndex. -/
theorem ZzIndex_ok (v k : J) (hk : keyOk k) (hs : strange v k = false) (hv : v.ok) (w : World) (gv gk : Value) (hgv : ARep w (allB w) v gv) (hgk : ARep w (allB w) k gk) :
    Calls Tryz.prog 51 #[gv, gk] w (AnyGives w (idxJ v k)) := by
  have HC := Lib.hid (idx2_ok v k hk hs hv w gv gk hgv hgk)
  clear hgv hgk hk hs hv
  go_enter Tryz.func51, Tryz.ntmps51
  go_wp2_with (go_at_call 78; refine HC.out.mono ?_; rintro e w' ⟨g, rfl, hb, hg⟩)
  exact bodyPost_ret (v := g) (by simp [results, Tryz.results51, go_sem]) rfl ⟨_, rfl, hb, hg⟩
end Go.Gj
