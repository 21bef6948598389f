/-
  impl.fromGo, whole.
-/
import Derived.Test.YtnlndpgbhmkanaaGreatDoorWFromL
import Derived.Test.YtnlndpgbhmkanaaGreatDoorMInvL
namespace Go.Gj
set_option linter.unusedSimpArgs false
set_option linter.unusedVariables false
set_option linter.unnecessarySimpa false
open Go Go.RowKit Go.Proofs

/-- Behind the call that gives a record: it is set into the result's cell. -/
theorem set_keeps {w w' : World} {x : J} {v : Value} (hb : Below (w.heap.size + 1) (w.alloc (.cells #[.int .i64 0, .int .i64 0, .string ⟨#[]⟩, .slice none 0 0, .slice none 0 0, .slice none 0 0] 26)) w') (h : JRep w' (since (w.heap.size + 1) w') x v) (c0 c1 c2 c3 c4 c5 : Value) :
    Below w.heap.size w (set6 w' w.heap.size c0 c1 c2 c3 c4 c5) ∧ JRep (set6 w' w.heap.size c0 c1 c2 c3 c4 c5) (since w.heap.size (set6 w' w.heap.size c0 c1 c2 c3 c4 c5)) x v :=
  ⟨((below1 w _).trans (hb.mono (Nat.le_succ _))).trans (below_set6 (Nat.le_refl _) _ _ _ _ _ _),
    h.keep (fun b hb => set6_other _ _ _ _ _ _ b (by have := hb.1; omega)) (fun b hb => ⟨Nat.le_trans (Nat.le_succ _) hb.1, by rw [set6_size]; exact hb.2⟩)⟩

theorem sz_szs {l : List J} (h : (J.arr l).sz) : ∀ y ∈ l, y.sz := (szs_iff l).1 h.2

set_option maxRecDepth 100000 in
theorem fg_arr (l : List J) (ih : ∀ y ∈ l, FromGoOk y) : FromGoOk (.arr l) := by
  intro w S v hz hS hr
  obtain ⟨b, o, c, rfl, hn, hb, hc⟩ := hr
  have hB := below1 w (.cells #[.int .i64 0, .int .i64 0, .string ⟨#[]⟩, .slice none 0 0, .slice none 0 0, .slice none 0 0] 26)
  have hC := listFromGo_ok l (fun y hy => ⟨sz_szs hz y hy, ih y hy⟩) hz.1 (w.alloc (.cells #[.int .i64 0, .int .i64 0, .string ⟨#[]⟩, .slice none 0 0, .slice none 0 0, .slice none 0 0] 26)) S (lt_below hB hS) b o c hb (ACells.keep (.of_below hB hS) (fun _ h => h) b hb l o hc)
  rw [size_alloc] at hC
  have HC := Lib.hid hC
  have HZ := Lib.hid hz.1
  have HB0 := Lib.hid (Box.new w 0 0 ⟨#[]⟩ (.slice none 0 0) (.slice none 0 0) (.slice none 0 0))
  clear hC hz hc ih hB
  go_enter Tryz.func77, Tryz.ntmps77
  go_upto_region 21 with fail
  go_wp2_with (go_at_call 100; refine HC.out.mono ?_; rintro e w' ⟨sv, rfl, hb', hsl⟩; obtain ⟨sa, sc, rfl, hsl2⟩ : ∃ sa sc, sv = .slice sa l.length sc ∧ JSl w' (since (w.heap.size + 1) w') l (.slice sa l.length sc) := (by obtain ⟨sa, sc, rfl, _⟩ := hsl.at; exact ⟨sa, sc, rfl, hsl⟩); have hbx : Box w' w.heap.size 0 0 ⟨#[]⟩ (.slice none 0 0) (.slice none 0 0) (.slice none 0 0) := (hb'.block _ (by omega)).trans HB0.out; obtain ⟨z0, z1, z2, z3, z4, z5⟩ := hbx.c; have zf := hbx.f; have HBX := Lib.hid hbx; have HBB := Lib.hid hb'; have HSL := Lib.hid hsl2; clear hbx hb' hsl hsl2)
  have HZZ := Lib.hid (set6_box HBX.out (k' := 5) (h' := 0) (t' := ⟨#[]⟩) (r1 := .slice sa l.length sc) (r2 := .slice none 0 0) (r3 := .slice none 0 0)).c
  have HR := Lib.hid (set_keeps (x := .arr l) (v := .agg #[.int .i64 5, .int .i64 0, .string ⟨#[]⟩, .slice sa l.length sc, .slice none 0 0, .slice none 0 0]) HBB.out ⟨_, _, _, rfl, Nat.zero_le mostLen, by decide, by decide, by rw [toVs_length]; exact HSL.out, slNil, slNil⟩ (.int .i64 5) (.int .i64 0) (.string ⟨#[]⟩) (.slice sa l.length sc) (.slice none 0 0) (.slice none 0 0))
  refine bodyPost_ret (w := set6 w' w.heap.size (.int .i64 5) (.int .i64 0) (.string ⟨#[]⟩) (.slice sa l.length sc) (.slice none 0 0) (.slice none 0 0)) (v := .tuple #[.agg #[.int .i64 5, .int .i64 0, .string ⟨#[]⟩, .slice sa l.length sc, .slice none 0 0, .slice none 0 0], .bool true]) ?_ rfl ?_
  · obtain ⟨y0, y1, y2, y3, y4, y5⟩ := HZZ.out
    simp [results, Tryz.results77, go_sem, y0, y1, y2, y3, y4, y5]
  · exact ⟨_, _, _, _, _, _, rfl, HR.out.1, HR.out.2⟩
end Go.Gj
