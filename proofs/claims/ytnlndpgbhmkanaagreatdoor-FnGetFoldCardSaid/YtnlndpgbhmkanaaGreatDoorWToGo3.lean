/-
  impl.toGo: a record becomes a value of any, in new memory.
-/
import Derived.Test.YtnlndpgbhmkanaaGreatDoorWToGo2
namespace Go.Gj
open Go Go.RowKit Go.Proofs

theorem tog_null : ToGoOk .null := by
  intro w S val hok hS hr
  obtain ⟨s1, s2, s3, rfl, _⟩ := hr.parts
  have HB := Lib.hid (below1 w (.cells #[.int .i64 0, .int .i64 0, .string ⟨#[]⟩, s1, s2, s3] 26))
  simp only [J.kind, J.half, J.text] at *
  clear hr
  go_enter Tryz.func49, Tryz.ntmps49
  go_wp2_with fail
  exact bodyPost_ret (v := .tuple #[.nilIface, .bool true]) (by simp [results, Tryz.results49, go_sem]) rfl ⟨_, rfl, HB.out, rfl⟩

theorem tog_bool (b : Bool) : ToGoOk (.bool b) := by
  intro w S val hok hS hr
  obtain ⟨s1, s2, s3, rfl, _⟩ := hr.parts
  cases b
  · have HB := Lib.hid (below1 w (.cells #[.int .i64 1, .int .i64 0, .string ⟨#[]⟩, s1, s2, s3] 26))
    simp only [J.kind, J.half, J.text] at *
    clear hr
    go_enter Tryz.func49, Tryz.ntmps49
    go_wp2_with fail
    exact bodyPost_ret (v := .tuple #[.iface 4 (.bool false), .bool true]) (by simp [results, Tryz.results49, go_sem]) rfl ⟨_, rfl, HB.out, rfl⟩
  · have HB := Lib.hid (below1 w (.cells #[.int .i64 2, .int .i64 0, .string ⟨#[]⟩, s1, s2, s3] 26))
    simp only [J.kind, J.half, J.text] at *
    clear hr
    go_enter Tryz.func49, Tryz.ntmps49
    go_wp2_with fail
    exact bodyPost_ret (v := .tuple #[.iface 4 (.bool true), .bool true]) (by simp [results, Tryz.results49, go_sem]) rfl ⟨_, rfl, HB.out, rfl⟩

theorem tog_str (s : ByteArray) : ToGoOk (.str s) := by
  intro w S val hok hS hr
  obtain ⟨s1, s2, s3, rfl, hs, _⟩ := hr.parts
  have HB := Lib.hid (below1 w (.cells #[.int .i64 4, .int .i64 0, .string s, s1, s2, s3] 26))
  simp only [J.kind, J.half, J.text] at *
  have HS := Lib.hid hs
  clear hr hs hok
  go_enter Tryz.func49, Tryz.ntmps49
  go_wp2_with fail
  exact bodyPost_ret (v := .tuple #[.iface 9 (.string s), .bool true]) (by simp [results, Tryz.results49, go_sem]) rfl ⟨_, rfl, HB.out, rfl, HS.out⟩

theorem tog_num (h : Int) : ToGoOk (.num h) := by
  intro w S val hok hS hr
  obtain ⟨s1, s2, s3, rfl, _⟩ := hr.parts
  have HB := Lib.hid (below1 w (.cells #[.int .i64 3, .int .i64 h, .string ⟨#[]⟩, s1, s2, s3] 26))
  obtain ⟨h1, h2, h3⟩ := hok
  simp only [J.kind, J.half, J.text] at *
  clear hr
  by_cases he : h.tmod 2 = 0
  · have hdv := Int.dvd_of_tmod_eq_zero he
    have e1 : h.tdiv 2 = h / 2 := Int.tdiv_eq_ediv_of_dvd hdv
    have HR := Lib.hid (show h % 2 = 0 ∧ -4611686018427387904 ≤ h ∧ h ≤ 4611686018427387904 by omega)
    have ht : (h.tmod 2 == 0) = true := by simp [he]
    clear he h3 hdv
    go_enter Tryz.func49, Tryz.ntmps49
    go_wp2_with fail
    exact bodyPost_ret (v := .tuple #[.iface 3 (.int .i64 (h / 2)), .bool true]) (by simp [results, Tryz.results49, go_sem]) rfl ⟨_, rfl, HB.out, .inl ⟨HR.out.1, HR.out.2.1, HR.out.2.2, rfl⟩⟩
  · have hnd : ¬ (2 : Int) ∣ h := fun hd => he (Int.tmod_eq_zero_of_dvd hd)
    have hb : h.natAbs < 2 ^ 53 := h3.resolve_left (by omega)
    have h0 : h ≠ 0 := by rintro rfl; exact he rfl
    have HR := Lib.hid (show h % 2 = 1 by omega)
    have HBB := Lib.hid hb
    have ht : (h.tmod 2 == 0) = false := by simp [he]
    have hcv : ∀ w, (convert 3 79 (.int .i64 h)).run Tryz.prog w = .ok (.float .f64 (fl h 0)) w := fun w => run_convert_int_float w 3 79 .i64 .f64 h (by kernel_rfl) (by kernel_rfl)
    have hq : ∀ t w, (binOp .quo t (.float .f64 (fl h 0)) (.float .f64 4611686018427387904)).run Tryz.prog w = .ok (.float .f64 (fl h (-1))) w := fun t w => run_float_arith w .quo t .f64 _ _ _ (div_two h0 hb)
    clear he h3 hb h0 hnd
    go_enter Tryz.func49, Tryz.ntmps49
    go_wp2_with fail
    exact bodyPost_ret (v := .tuple #[.iface 79 (.float .f64 (fl h (-1))), .bool true]) (by simp [results, Tryz.results49, go_sem]) rfl ⟨_, rfl, HB.out, .inr ⟨HR.out, HBB.out, rfl⟩⟩

theorem tog_arr (l : List J) (ih : ∀ y ∈ l, ToGoOk y) : ToGoOk (.arr l) := by
  intro w S val hok hS hr
  obtain ⟨hll, hoks⟩ := ok_list hok
  obtain ⟨s1, s2, s3, rfl, hs, j1, _⟩ := hr.parts
  simp only [J.kind, J.half, J.text, J.list] at *
  have HB := Lib.hid (below1 w (.cells #[.int .i64 5, .int .i64 0, .string ⟨#[]⟩, s1, s2, s3] 26))
  have HC := Lib.hid (listToGo_ok l (fun y hy => ⟨hoks y hy, ih y hy⟩) hll (w.alloc (.cells #[.int .i64 5, .int .i64 0, .string ⟨#[]⟩, s1, s2, s3] 26)) S (lt_below HB.out hS) s1 (j1.below HB.out hS))
  clear hr j1 hok hoks ih
  go_enter Tryz.func49, Tryz.ntmps49
  go_wp2_with (go_at_call 75; refine HC.out.mono ?_; rintro e w' ⟨B, rfl, hb', hB1, hB2, hc⟩)
  refine bodyPost_ret (v := .tuple #[.iface 80 (.slice (some ⟨B, 0, none⟩) l.length l.length), .bool true]) (by simp [results, Tryz.results49, go_sem]) rfl ⟨_, rfl, HB.out.trans (hb'.mono HB.out.size), B, 0, l.length, rfl, ?_, ⟨Nat.le_trans HB.out.size hB1, hB2⟩, ?_⟩
  · unfold lim at hll; unfold mostLen; omega
  · exact ACells.keep (fun _ _ => rfl) (fun b hb => ⟨Nat.le_trans HB.out.size hb.1, hb.2⟩) _ ⟨hB1, hB2⟩ _ _ hc

theorem tog_obj (ks : List ByteArray) (vs : List J) (ih : ∀ y ∈ vs, ToGoOk y) : ToGoOk (.obj ks vs) := by
  intro w S val hok hS hr
  obtain ⟨hll, hoks⟩ := ok_vals hok
  have hr0 := hr
  obtain ⟨s1, s2, s3, rfl, hs, _⟩ := hr.parts
  simp only [J.kind, J.half, J.text] at *
  have HB := Lib.hid (below1 w (.cells #[.int .i64 6, .int .i64 0, .string ⟨#[]⟩, s1, s2, s3] 26))
  have HC := Lib.hid (mapToGo_ok (.obj ks vs) rfl (fun y hy => ⟨hoks y hy, ih y hy⟩) hok (w.alloc (.cells #[.int .i64 6, .int .i64 0, .string ⟨#[]⟩, s1, s2, s3] 26)) S (lt_below HB.out hS) _ (hr0.below HB.out hS))
  clear hr hr0 hok hoks ih
  go_enter Tryz.func49, Tryz.ntmps49
  go_wp2_with (go_at_call 76; refine HC.out.mono ?_; rintro e w' ⟨B, rfl, hb', hB1, hc⟩)
  refine bodyPost_ret (v := .tuple #[.iface 83 (.map (some B)), .bool true]) (by simp [results, Tryz.results49, go_sem]) rfl ⟨_, rfl, HB.out.trans (hb'.mono HB.out.size), ?_⟩
  exact hc.mono fun b hb => ⟨Nat.le_trans HB.out.size hb.1, hb.2⟩

/-- impl.toGo. -/
theorem toGo_ok (x : J) : ToGoOk x := by
  match x with
  | .null => exact tog_null
  | .bool b => exact tog_bool b
  | .num h => exact tog_num h
  | .str s => exact tog_str s
  | .arr l => exact tog_arr l fun y hy => toGo_ok y
  | .obj ks vs => exact tog_obj ks vs fun y hy => toGo_ok y
termination_by SizeOf.sizeOf x
decreasing_by
  · have := List.sizeOf_lt_of_mem hy; simp; omega
  · have := List.sizeOf_lt_of_mem hy; simp; omega
end Go.Gj
