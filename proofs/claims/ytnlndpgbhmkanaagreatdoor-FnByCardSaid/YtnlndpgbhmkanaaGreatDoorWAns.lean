/-
  impl.fromGo, whole.
-/
import Derived.Test.YtnlndpgbhmkanaaGreatDoorWFromL
import Derived.Test.YtnlndpgbhmkanaaGreatDoorMInvL
import Derived.Test.YtnlndpgbhmkanaaGreatDoorWFromM
import Derived.Test.YtnlndpgbhmkanaaGreatDoorAnsL
import Derived.Test.YtnlndpgbhmkanaaGreatDoorWDoor
namespace Go.Gj
set_option linter.unusedSimpArgs false
set_option linter.unusedVariables false
set_option linter.unnecessarySimpa false
open Go Go.RowKit Go.Proofs

/-- Behind the call that gives a record: it is set into the result's cell. -/
theorem set_keeps {w w' : World} {x : J} {v : Value} (hb : Below (w.heap.size + 1) (w.alloc (.cells #[.int .i64 0, .int .i64 0, .string ⟨#[]⟩, .slice none 0 0, .slice none 0 0, .slice none 0 0] 26)) w') (h : JRep w' (since (w.heap.size + 1) w') x v) (c0 c1 c2 c3 c4 c5 : Value) :
    Below w.heap.size w (set6 w' w.heap.size c0 c1 c2 c3 c4 c5) ∧ JRep (set6 w' w.heap.size c0 c1 c2 c3 c4 c5) (since w.heap.size (set6 w' w.heap.size c0 c1 c2 c3 c4 c5)) x v :=
  ⟨((below1 w _).trans (hb.mono (Nat.le_succ _))).trans (below_set6 (Nat.le_refl _) _ _ _ _ _ _),
    h.keep (fun b hb => set6_other _ _ _ _ _ _ b (by have := hb.1; omega)) (fun b hb => ⟨Nat.le_trans (Nat.le_succ _) hb.1, by rw [set6_size]; exact hb.2⟩)⟩

theorem sz_szs {l : List J} (h : (J.arr l).sz) : ∀ y ∈ l, y.sz := (szs_iff l).1 h.2

set_option maxRecDepth 100000 in
theorem fg_arr (l : List J) (ih : ∀ y ∈ l, FromGoOk y) : FromGoOk (.arr l) := by
  intro w S v hz hS hr
  obtain ⟨b, o, c, rfl, hn, hb, hc⟩ := hr
  have hB := below1 w (.cells #[.int .i64 0, .int .i64 0, .string ⟨#[]⟩, .slice none 0 0, .slice none 0 0, .slice none 0 0] 26)
  have hC := listFromGo_ok l (fun y hy => ⟨sz_szs hz y hy, ih y hy⟩) hz.1 (w.alloc (.cells #[.int .i64 0, .int .i64 0, .string ⟨#[]⟩, .slice none 0 0, .slice none 0 0, .slice none 0 0] 26)) S (lt_below hB hS) b o c hb (ACells.keep (.of_below hB hS) (fun _ h => h) b hb l o hc)
  rw [size_alloc] at hC
  have HC := Lib.hid hC
  have HZ := Lib.hid hz.1
  have HB0 := Lib.hid (Box.new w 0 0 ⟨#[]⟩ (.slice none 0 0) (.slice none 0 0) (.slice none 0 0))
  clear hC hz hc ih hB
  go_enter Tryz.func77, Tryz.ntmps77
  go_upto_region 21 with fail
  go_wp2_with (go_at_call 100; refine HC.out.mono ?_; rintro e w' ⟨sv, rfl, hb', hsl⟩; obtain ⟨sa, sc, rfl, hsl2⟩ : ∃ sa sc, sv = .slice sa l.length sc ∧ JSl w' (since (w.heap.size + 1) w') l (.slice sa l.length sc) := (by obtain ⟨sa, sc, rfl, _⟩ := hsl.at; exact ⟨sa, sc, rfl, hsl⟩); have hbx : Box w' w.heap.size 0 0 ⟨#[]⟩ (.slice none 0 0) (.slice none 0 0) (.slice none 0 0) := (hb'.block _ (by omega)).trans HB0.out; obtain ⟨z0, z1, z2, z3, z4, z5⟩ := hbx.c; have zf := hbx.f; have HBX := Lib.hid hbx; have HBB := Lib.hid hb'; have HSL := Lib.hid hsl2; clear hbx hb' hsl hsl2)
  have HZZ := Lib.hid (set6_box HBX.out (k' := 5) (h' := 0) (t' := ⟨#[]⟩) (r1 := .slice sa l.length sc) (r2 := .slice none 0 0) (r3 := .slice none 0 0)).c
  have HR := Lib.hid (set_keeps (x := .arr l) (v := .agg #[.int .i64 5, .int .i64 0, .string ⟨#[]⟩, .slice sa l.length sc, .slice none 0 0, .slice none 0 0]) HBB.out ⟨_, _, _, rfl, Nat.zero_le mostLen, by decide, by decide, by rw [toVs_length]; exact HSL.out, slNil, slNil⟩ (.int .i64 5) (.int .i64 0) (.string ⟨#[]⟩) (.slice sa l.length sc) (.slice none 0 0) (.slice none 0 0))
  refine bodyPost_ret (w := set6 w' w.heap.size (.int .i64 5) (.int .i64 0) (.string ⟨#[]⟩) (.slice sa l.length sc) (.slice none 0 0) (.slice none 0 0)) (v := .tuple #[.agg #[.int .i64 5, .int .i64 0, .string ⟨#[]⟩, .slice sa l.length sc, .slice none 0 0, .slice none 0 0], .bool true]) ?_ rfl ?_
  · obtain ⟨y0, y1, y2, y3, y4, y5⟩ := HZZ.out
    simp [results, Tryz.results77, go_sem, y0, y1, y2, y3, y4, y5]
  · exact ⟨_, _, _, _, _, _, rfl, HR.out.1, HR.out.2⟩
end Go.Gj

/-
  impl.fromGo at objects, and whole.
-/
namespace Go.Gj
set_option linter.unusedSimpArgs false
set_option linter.unusedVariables false
set_option linter.unnecessarySimpa false
open Go Go.RowKit Go.Proofs

theorem sz_obj {ks : List ByteArray} {vs : List J} (h : (J.obj ks vs).sz) : ∀ y ∈ vs, y.sz := (szs_iff vs).1 h.2.2.2

set_option maxRecDepth 100000 in
theorem fg_obj (ks : List ByteArray) (vs : List J) (ih : ∀ y ∈ vs, FromGoOk y) : FromGoOk (.obj ks vs) := by
  intro w S v hz hS hr
  obtain ⟨r, es, clk, rfl, hrS, hh, hst, hp, hks, ha⟩ := hr
  have hB := below1 w (.cells #[.int .i64 0, .int .i64 0, .string ⟨#[]⟩, .slice none 0 0, .slice none 0 0, .slice none 0 0] 26)
  have hC := mapFromGo_ok ks vs (fun y hy => ⟨sz_obj hz y hy, ih y hy⟩) hz.1 hz.2.1 hz.2.2.1 (w.alloc (.cells #[.int .i64 0, .int .i64 0, .string ⟨#[]⟩, .slice none 0 0, .slice none 0 0, .slice none 0 0] 26)) S (lt_below hB hS) r es clk hrS ((hB.block r (hS r hrS)).trans hh) hst hp hks (AVals.keep (.of_below hB hS) (fun _ h => h) es ks vs ha)
  rw [size_alloc] at hC
  have HC := Lib.hid hC
  have HZ := Lib.hid hz.1
  have HB0 := Lib.hid (Box.new w 0 0 ⟨#[]⟩ (.slice none 0 0) (.slice none 0 0) (.slice none 0 0))
  clear hC hz ha hp hks hst hh ih hB
  go_enter Tryz.func77, Tryz.ntmps77
  go_upto_region 24 with fail
  go_wp2_with (go_at_call 101; refine HC.out.mono ?_; rintro e w' ⟨v1, v2, rfl, hb', hsl1, hsl2⟩; obtain ⟨sa, sc, rfl, hk1⟩ : ∃ sa sc, v1 = .slice sa ks.length sc ∧ KSl w' (since (w.heap.size + 1) w') ks (.slice sa ks.length sc) := (by obtain ⟨sa, sc, rfl, _⟩ := hsl1.at; exact ⟨sa, sc, rfl, hsl1⟩); obtain ⟨ta, tc, rfl, hk2⟩ : ∃ sa sc, v2 = .slice sa vs.length sc ∧ JSl w' (since (w.heap.size + 1) w') vs (.slice sa vs.length sc) := (by obtain ⟨sa, sc, rfl, _⟩ := hsl2.at; exact ⟨sa, sc, rfl, hsl2⟩); have hbx : Box w' w.heap.size 0 0 ⟨#[]⟩ (.slice none 0 0) (.slice none 0 0) (.slice none 0 0) := (hb'.block _ (by omega)).trans HB0.out; obtain ⟨z0, z1, z2, z3, z4, z5⟩ := hbx.c; have zf := hbx.f; have HBX := Lib.hid hbx; have HBB := Lib.hid hb'; have HSL1 := Lib.hid hk1; have HSL2 := Lib.hid hk2; clear hbx hb' hsl1 hsl2 hk1 hk2)
  have HZZ := Lib.hid (set6_box HBX.out (k' := 6) (h' := 0) (t' := ⟨#[]⟩) (r1 := .slice none 0 0) (r2 := .slice sa ks.length sc) (r3 := .slice ta vs.length tc)).c
  have HR := Lib.hid (set_keeps (x := .obj ks vs) (v := .agg #[.int .i64 6, .int .i64 0, .string ⟨#[]⟩, .slice none 0 0, .slice sa ks.length sc, .slice ta vs.length tc]) HBB.out ⟨_, _, _, rfl, Nat.zero_le mostLen, by decide, by decide, slNil, HSL1.out, by rw [toVs_length]; exact HSL2.out⟩ (.int .i64 6) (.int .i64 0) (.string ⟨#[]⟩) (.slice none 0 0) (.slice sa ks.length sc) (.slice ta vs.length tc))
  refine bodyPost_ret (w := set6 w' w.heap.size (.int .i64 6) (.int .i64 0) (.string ⟨#[]⟩) (.slice none 0 0) (.slice sa ks.length sc) (.slice ta vs.length tc)) (v := .tuple #[.agg #[.int .i64 6, .int .i64 0, .string ⟨#[]⟩, .slice none 0 0, .slice sa ks.length sc, .slice ta vs.length tc], .bool true]) ?_ rfl ?_
  · obtain ⟨y0, y1, y2, y3, y4, y5⟩ := HZZ.out
    simp [results, Tryz.results77, go_sem, y0, y1, y2, y3, y4, y5]
  · exact ⟨_, _, _, _, _, _, rfl, HR.out.1, HR.out.2⟩

/-- impl.fromGo. -/
theorem fromGo_ok (x : J) : FromGoOk x := by
  match x with
  | .null => exact fg_null
  | .bool b => exact fg_bool b
  | .num h => exact fg_num h
  | .str s => exact fg_str s
  | .arr l => exact fg_arr l fun y hy => fromGo_ok y
  | .obj ks vs => exact fg_obj ks vs fun y hy => fromGo_ok y
termination_by SizeOf.sizeOf x
decreasing_by
  · have := List.sizeOf_lt_of_mem hy; simp; omega
  · have := List.sizeOf_lt_of_mem hy; simp; omega

end Go.Gj

/-
  What a function of values of any gives, and what impl.result makes of it: a value, or an error.
-/
namespace Go.Gj
set_option linter.unusedSimpArgs false
set_option linter.unusedVariables false
set_option linter.unnecessarySimpa false
open Go Go.RowKit Go.Proofs

/-- A record impl.Res that stands for an answer: at an error null, and 1. -/
def ResIs (a : Option J) (x : J) (en : Int) : Prop := match a with
  | some z => x = z ∧ en = 0
  | none => x = .null ∧ en = 1

def AnsRes (w : World) (a : Option J) (e : Ending) (w' : World) : Prop :=
  ∃ c0 c1 c2 c3 c4 c5 en x, e = .returned (.agg #[c0, c1, c2, c3, c4, c5, .int .i64 en]) ∧ Below w.heap.size w w' ∧ JRep w' (since w.heap.size w') x (.agg #[c0, c1, c2, c3, c4, c5]) ∧ ResIs a x en

set_option maxRecDepth 100000 in
theorem result_err (g : Value) (hg : IsErr g) (w : World) :
    Calls Tryz.prog 50 #[g] w fun e w' => e = .returned (.agg #[.int .i64 0, .int .i64 0, .string ⟨#[]⟩, .slice none 0 0, .slice none 0 0, .slice none 0 0, .int .i64 1]) ∧ Below w.heap.size w w' := by
  obtain ⟨⟨gt, gv, rfl⟩, hea⟩ := hg
  go_enter Tryz.func50, Tryz.ntmps50
  go_wp2_with fail
  exact bodyPost_ret (v := .agg #[.int .i64 0, .int .i64 0, .string ⟨#[]⟩, .slice none 0 0, .slice none 0 0, .slice none 0 0, .int .i64 1]) (by simp [results, Tryz.results50, go_sem]) rfl ⟨rfl, by repeat (first | exact Below.refl _ _ | exact below1 _ _)⟩

theorem result_any (a : Option J) (g : Value) (w : World) (h : AnyIs w a g) : Calls Tryz.prog 50 #[g] w (AnsRes w a) := by
  cases a with
  | some z =>
    refine (result_ok z h.2 (fromGo_ok z) w (allB w) g (fun _ h => h) h.1).mono ?_
    rintro e w' ⟨c0, c1, c2, c3, c4, c5, rfl, hb, hj⟩
    exact ⟨c0, c1, c2, c3, c4, c5, 0, z, rfl, hb, hj, rfl, rfl⟩
  | none =>
    refine (result_err g h w).mono ?_
    rintro e w' ⟨rfl, hb⟩
    exact ⟨_, _, _, _, _, _, 1, .null, rfl, hb, jrep_null _ _, rfl, rfl⟩
end Go.Gj
