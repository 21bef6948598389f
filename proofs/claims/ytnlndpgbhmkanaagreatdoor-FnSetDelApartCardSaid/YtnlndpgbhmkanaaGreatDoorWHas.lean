/-
  gojq: funcHas; spec.Bool; the law's yes and no.
-/
import Derived.Test.YtnlndpgbhmkanaaGreatDoorWSetP
import Derived.Test.YtnlndpgbhmkanaaGreatDoorWLaw
namespace Go.Gj
set_option linter.unusedSimpArgs false
set_option linter.unusedVariables false
set_option linter.unnecessarySimpa false
open Go Go.RowKit Go.Proofs

set_option maxRecDepth 100000 in
theorem has_arr (m n : Nat) (a : Option Addr) (c : Nat) (w : World) :
    Calls Tryz.prog 90 #[.iface 80 (.slice a m c), .iface 3 (.int .i64 n)] w (AnyGives w (some (.bool (decide (n < m))))) := by
  have h0 : decide ((0 : Int) ≤ n) = true := decide_eq_true (by omega)
  have h00 : (0 : Int) ≤ n := by omega
  by_cases h : n < m
  · have h1 : decide ((n : Int) < m) = true := decide_eq_true (by omega)
    rw [show decide (n < m) = true by simp [h]]
    have HN := Lib.hid h
    clear h
    go_enter Tryz.func90, Tryz.ntmps90
    go_wp2_with (go_at_call 102; refine (toInt_int _ _).mono ?_; rintro e w ⟨rfl, rfl⟩)
    exact bodyPost_ret (v := .iface 4 (.bool true)) (by simp [results, Tryz.results90, go_sem, HN.out]) rfl ⟨_, rfl, Below.refl _ _, rfl, trivial⟩
  · have h1 : decide ((n : Int) < m) = false := decide_eq_false (by omega)
    rw [show decide (n < m) = false by simp [h]]
    have HN := Lib.hid h
    clear h
    go_enter Tryz.func90, Tryz.ntmps90
    go_wp2_with (go_at_call 102; refine (toInt_int _ _).mono ?_; rintro e w ⟨rfl, rfl⟩)
    exact bodyPost_ret (v := .iface 4 (.bool false)) (by simp [results, Tryz.results90, go_sem, HN.out]) rfl ⟨_, rfl, Below.refl _ _, rfl, trivial⟩

set_option maxRecDepth 100000 in
theorem has_obj (r : Nat) (s : ByteArray) (g : Value) (y : Bool) (w : World) (hl : (Instr.lookup 83 (.map (some r)) (.string s) true).run Tryz.prog w = .ok (.tuple #[g, .bool y]) w) :
    Calls Tryz.prog 90 #[.iface 83 (.map (some r)), .iface 9 (.string s)] w (AnyGives w (some (.bool y))) := by
  go_enter Tryz.func90, Tryz.ntmps90
  go_wp2_with fail
  exact bodyPost_ret (v := .iface 4 (.bool y)) (by simp [results, Tryz.results90, go_sem]) rfl ⟨_, rfl, Below.refl _ _, rfl, trivial⟩

theorem any_mem (ks : List ByteArray) (s : ByteArray) : (ks.any fun k => k.toList == s.toList) = true ↔ s ∈ ks := by
  rw [List.any_eq_true]
  constructor
  · rintro ⟨k, hk, e⟩
    have e2 : k = s := ba_toList_inj (by simpa using e)
    exact e2 ▸ hk
  · intro h; exact ⟨s, h, by simp⟩

/-- Has, at an array and a number, at an object and a text. -/
def hasJ : J → J → Bool
  | .arr l, .num h => decide ((h / 2).toNat < l.length)
  | .obj ks _, .str s => ks.any fun k => k.toList == s.toList
  | _, _ => false

def hasAt : J → J → Prop
  | .arr _, .num _ => True
  | .obj _ _, .str _ => True
  | _, _ => False

theorem funcHas_ok (v k : J) (hk : keyOk k) (ht : hasAt v k) (hv : v.ok) (w : World) (gv gk : Value) (hgv : ARep w (allB w) v gv) (hgk : ARep w (allB w) k gk) :
    Calls Tryz.prog 90 #[gv, gk] w (AnyGives w (some (.bool (hasJ v k)))) := by
  cases k with
  | str s =>
    obtain rfl : gk = .iface 9 (.string s) := hgk.1
    cases v with
    | obj ks vs =>
      obtain ⟨r, es, clk, rfl, _, hh, _, hp, _, ha⟩ := hgv
      obtain ⟨g, y, hy, hl, _⟩ := obj_lookup hh hp hv.2.2.1 hv.1 ha s true
      have e : hasJ (.obj ks vs) (.str s) = y := by
        simp only [hasJ]
        cases y with
        | true => exact (any_mem ks s).2 (hy.1 rfl)
        | false =>
          rw [Bool.eq_false_iff]
          exact fun h => by simpa using hy.2 ((any_mem ks s).1 h)
      rw [e]
      exact has_obj r s g y w (hl w hh)
    | _ => exact ht.elim
  | num h =>
    obtain ⟨h1, h2, h3⟩ := hk
    obtain rfl : gk = .iface 3 (.int .i64 (h / 2)) := by
      rcases hgk with ⟨_, _, _, rfl⟩ | ⟨h', _⟩
      · rfl
      · omega
    cases v with
    | arr l =>
      obtain ⟨b, o, c, rfl, _, _, hc⟩ := hgv
      obtain ⟨n, hn⟩ : ∃ n : Nat, h / 2 = n := ⟨(h / 2).toNat, by omega⟩
      have e : hasJ (.arr l) (.num h) = decide (n < l.length) := by simp only [hasJ, hn, Int.toNat_natCast]
      rw [e, hn]
      exact has_arr l.length n _ c w
    | _ => exact ht.elim
  | _ => exact hk.elim

/-- gojq's ZzHas. -/
theorem ZzHas_ok (v k : J) (hk : keyOk k) (ht : hasAt v k) (hv : v.ok) (w : World) (gv gk : Value) (hgv : ARep w (allB w) v gv) (hgk : ARep w (allB w) k gk) :
    Calls Tryz.prog 66 #[gv, gk] w (AnyGives w (some (.bool (hasJ v k)))) := by
  have HC := Lib.hid (funcHas_ok v k hk ht hv w gv gk hgv hgk)
  clear hgv hgk hk ht hv
  go_enter Tryz.func66, Tryz.ntmps66
  go_wp2_with (go_at_call 90; refine HC.out.mono ?_; rintro e w' ⟨g, rfl, hb, hg⟩)
  exact bodyPost_ret (v := g) (by simp [results, Tryz.results66, go_sem]) rfl ⟨_, rfl, hb, hg⟩

/-- spec.Bool. -/
theorem specBool_ok (y : Bool) (w : World) : Calls Tryz.prog 67 #[.bool y] w fun e w' => e = .returned (.agg #[.int .i64 (if y then 2 else 1), .int .i64 0, .string ⟨#[]⟩, .slice none 0 0, .slice none 0 0, .slice none 0 0]) ∧ Below w.heap.size w w' := by
  have hb := Lib.hid (fun o => below1 w (.cells #[.int .i64 o, .int .i64 0, .string ⟨#[]⟩, .slice none 0 0, .slice none 0 0, .slice none 0 0] 26))
  cases y
  · go_enter Tryz.func67, Tryz.ntmps67
    go_wp2_with fail
    exact bodyPost_ret (v := .agg #[.int .i64 1, .int .i64 0, .string ⟨#[]⟩, .slice none 0 0, .slice none 0 0, .slice none 0 0]) (by simp [results, Tryz.results67, go_sem]) rfl ⟨rfl, hb.out _⟩
  · go_enter Tryz.func67, Tryz.ntmps67
    go_wp2_with fail
    exact bodyPost_ret (v := .agg #[.int .i64 2, .int .i64 0, .string ⟨#[]⟩, .slice none 0 0, .slice none 0 0, .slice none 0 0]) (by simp [results, Tryz.results67, go_sem]) rfl ⟨rfl, hb.out _⟩
end Go.Gj
