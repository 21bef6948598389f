/-
  laws.fit 53, laws.pairs 18.
-/
import Derived.Test.YtnlndpgbhmkanaaGreatDoorWBy1
namespace Go.Gj
set_option linter.unusedSimpArgs false
set_option linter.unusedVariables false
set_option linter.unnecessarySimpa false
open Go Go.RowKit Go.Proofs

/-- A record that stands for an array of raw values. -/
theorem vrep_arr {w : World} {S : Nat → Prop} {l : List V} {v : Value} (h : SlOf S l.length (fun b o => VCells w S b l o) v) : VRep w S (.mk 5 0 ⟨#[]⟩ l [] []) (.agg #[.int .i64 5, .int .i64 0, .string ⟨#[]⟩, v, .slice none 0 0, .slice none 0 0]) :=
  ⟨v, .slice none 0 0, .slice none 0 0, rfl, by decide, by decide, by decide, h, ⟨none, 0, rfl, by decide, .inl rfl⟩, ⟨none, 0, rfl, by decide, .inl rfl⟩⟩

set_option maxHeartbeats 2000000 in
set_option maxRecDepth 100000 in
theorem fit2_ok (l m : List V) (w : World) (S : Nat → Prop) (hT : Tabs w) (hS : ∀ b, S b → b < w.heap.size) (a1 a2 : Option Addr) (c1 c2 : Nat) (ha : SlOf S l.length (fun b o => VCells w S b l o) (.slice a1 l.length c1)) (hb : SlOf S m.length (fun b o => VCells w S b m o) (.slice a2 m.length c2)) :
    Calls Tryz.prog 53 #[.agg #[.int .i64 5, .int .i64 0, .string ⟨#[]⟩, .slice a1 l.length c1, .slice none 0 0, .slice none 0 0], .agg #[.int .i64 5, .int .i64 0, .string ⟨#[]⟩, .slice a2 m.length c2, .slice none 0 0, .slice none 0 0]] w
      fun e w' => ∃ r, e = .returned (.bool r) ∧ Below w.heap.size w w' ∧ (r = true → ∃ p q : J, p.ok ∧ q.ok ∧ V.mk 5 0 ⟨#[]⟩ l [] [] = p.toV ∧ V.mk 5 0 ⟨#[]⟩ m [] [] = q.toV) := by
  have hB := below2 w (.cells #[.int .i64 5, .int .i64 0, .string ⟨#[]⟩, .slice a1 l.length c1, .slice none 0 0, .slice none 0 0] 26) (.cells #[.int .i64 5, .int .i64 0, .string ⟨#[]⟩, .slice a2 m.length c2, .slice none 0 0, .slice none 0 0] 26)
  have HF1 := Lib.hid (fun w1 (h1 : Below w.heap.size w w1) => Fit_ok _ w1 S _ (hT.below h1) (lt_below h1 hS) (VRep.keep (.of_below h1 hS) (fun _ h => h) _ _ (vrep_arr ha)))
  have HF2 := Lib.hid (fun w1 (h1 : Below w.heap.size w w1) => Fit_ok _ w1 S _ (hT.below h1) (lt_below h1 hS) (VRep.keep (.of_below h1 hS) (fun _ h => h) _ _ (vrep_arr hb)))
  have e1 : (w.alloc (.cells #[.int .i64 5, .int .i64 0, .string ⟨#[]⟩, .slice a1 l.length c1, .slice none 0 0, .slice none 0 0] 26)).heap.size = w.heap.size + 1 := size_alloc _ _
  have e2 : ((w.alloc (.cells #[.int .i64 5, .int .i64 0, .string ⟨#[]⟩, .slice a1 l.length c1, .slice none 0 0, .slice none 0 0] 26)).alloc (.cells #[.int .i64 5, .int .i64 0, .string ⟨#[]⟩, .slice a2 m.length c2, .slice none 0 0, .slice none 0 0] 26)).heap.size = w.heap.size + 2 := by rw [size_alloc, e1]
  have q2 := Box.new (w.alloc (.cells #[.int .i64 5, .int .i64 0, .string ⟨#[]⟩, .slice a1 l.length c1, .slice none 0 0, .slice none 0 0] 26)) 5 0 ⟨#[]⟩ (.slice a2 m.length c2) (.slice none 0 0) (.slice none 0 0)
  rw [e1] at q2
  have q1 := (Below.heap_alloc (w.alloc (.cells #[.int .i64 5, .int .i64 0, .string ⟨#[]⟩, .slice a1 l.length c1, .slice none 0 0, .slice none 0 0] 26)) (.cells #[.int .i64 5, .int .i64 0, .string ⟨#[]⟩, .slice a2 m.length c2, .slice none 0 0, .slice none 0 0] 26) w.heap.size (by rw [e1]; omega)).trans (Box.new w 5 0 ⟨#[]⟩ (.slice a1 l.length c1) (.slice none 0 0) (.slice none 0 0))
  have HQ := Lib.hid (And.intro hB (And.intro e2 q2))
  have HQ1 : Hid (Box ((w.alloc (.cells #[.int .i64 5, .int .i64 0, .string ⟨#[]⟩, .slice a1 l.length c1, .slice none 0 0, .slice none 0 0] 26)).alloc (.cells #[.int .i64 5, .int .i64 0, .string ⟨#[]⟩, .slice a2 m.length c2, .slice none 0 0, .slice none 0 0] 26)) w.heap.size 5 0 ⟨#[]⟩ (.slice a1 l.length c1) (.slice none 0 0) (.slice none 0 0)) := Lib.hid q1
  clear ha hb hT hS hB e1 e2 q2 q1
  go_enter Tryz.func53, Tryz.ntmps53
  go_upto_region 1 with fail
  generalize ((w.alloc (.cells #[.int .i64 5, .int .i64 0, .string ⟨#[]⟩, .slice a1 l.length c1, .slice none 0 0, .slice none 0 0] 26)).alloc (.cells #[.int .i64 5, .int .i64 0, .string ⟨#[]⟩, .slice a2 m.length c2, .slice none 0 0, .slice none 0 0] 26)) = W1 at *
  have hsz := HQ.out.2.1
  obtain ⟨z0, z1, z2, z3, z4, z5⟩ := HQ1.out.c
  go_wp2_with (first
    | (go_at_call 47; (with_reducible refine (HF1.out _ HQ.out.1).mono ?_); rintro e w2 ⟨r, rfl, hx, hi⟩; have HX := Lib.hid hx; have HI := Lib.hid hi; have HP2 := Lib.hid (HQ.out.1.trans (hx.mono (by omega))); obtain ⟨y0, y1, y2, y3, y4, y5⟩ := (show Box w2 _ _ _ _ _ _ _ from (hx.block _ (by omega)).trans HQ.out.2.2).c; clear hx hi; cases r)
    | (go_at_call 47; (with_reducible refine (HF2.out _ HP2.out).mono ?_); rintro e w3 ⟨r', rfl, hx, hi⟩; have HI2 := Lib.hid hi; have HP3 := Lib.hid (HP2.out.trans (hx.mono HP2.out.size)); clear hx hi))
  · go_ret
    exact ⟨_, rfl, HP2.out, fun h => by cases h⟩
  · go_ret
    refine ⟨_, rfl, HP3.out, fun h => ?_⟩
    obtain ⟨x, hx, e⟩ := HI.out (by trivial)
    obtain ⟨y, hy, e2⟩ := HI2.out (by simpa using h)
    exact ⟨x, y, hx, hy, e, e2⟩

theorem SlOf.vkeep' {w w' : World} {S : Nat → Prop} {l : List V} {v : Value} (h : SlOf S l.length (fun b o => VCells w S b l o) v) (hb : Below w.heap.size w w') (hS : ∀ b, S b → b < w.heap.size) : SlOf S l.length (fun b o => VCells w' S b l o) v := SlOf.keep h (fun _ h => h) fun b o hb' hq => VCells.keep (.of_below hb hS) (fun _ h => h) b hb' _ o hq

set_option maxHeartbeats 2000000 in
set_option maxRecDepth 100000 in
theorem pairs_ok (l m : List V) (w : World) (S : Nat → Prop) (hT : Tabs w) (hS : ∀ b, S b → b < w.heap.size) (a1 a2 : Option Addr) (c1 c2 : Nat) (ha : SlOf S l.length (fun b o => VCells w S b l o) (.slice a1 l.length c1)) (hb : SlOf S m.length (fun b o => VCells w S b m o) (.slice a2 m.length c2)) :
    Calls Tryz.prog 18 #[.slice a1 l.length c1, .slice a2 m.length c2] w
      fun e w' => ∃ r, e = .returned (.bool r) ∧ Below w.heap.size w w' ∧ (r = true → l.length = m.length ∧ ∃ p q : J, p.ok ∧ q.ok ∧ V.mk 5 0 ⟨#[]⟩ l [] [] = p.toV ∧ V.mk 5 0 ⟨#[]⟩ m [] [] = q.toV) := by
  have HF := Lib.hid (fun w1 (h1 : Below w.heap.size w w1) => fit2_ok l m w1 S (hT.below h1) (lt_below h1 hS) a1 a2 c1 c2 (SlOf.vkeep' ha h1 hS) (SlOf.vkeep' hb h1 hS))
  have HP0 := Lib.hid (Below.refl w.heap.size w)
  clear ha hb hT hS
  by_cases he : l.length = m.length
  · have hb : ((l.length : Int) == m.length) = true := by simp [he]
    have HE := Lib.hid he
    clear he
    go_enter Tryz.func18, Tryz.ntmps18
    go_wp2_with (first
      | (go_at_call 53; (with_reducible refine (HF.out _ HP2.out).mono ?_); rintro e w3 ⟨r, rfl, hx, hi⟩; have HI := Lib.hid hi; have HP3 := Lib.hid (HP2.out.trans (hx.mono HP2.out.size)); clear hx hi)
      | (go_at_call 19; (with_reducible refine (arr19_ok a1 l.length c1 _).mono ?_); rintro e w1 ⟨rfl, hx⟩; have HP1 := Lib.hid (HP0.out.trans hx); clear hx)
      | (go_at_call 19; (with_reducible refine (arr19_ok a2 m.length c2 _).mono ?_); rintro e w2 ⟨rfl, hx⟩; have HP2 := Lib.hid (HP1.out.trans (hx.mono HP1.out.size)); clear hx))
    go_ret
    exact ⟨_, rfl, HP3.out, fun h => ⟨HE.out, HI.out (by simpa using h)⟩⟩
  · have hb : ((l.length : Int) == m.length) = false := by rw [beq_eq_false_iff_ne]; omega
    clear he
    go_enter Tryz.func18, Tryz.ntmps18
    go_wp2_with fail
    go_ret
    exact ⟨_, rfl, HP0.out, fun h => by cases h⟩
end Go.Gj
