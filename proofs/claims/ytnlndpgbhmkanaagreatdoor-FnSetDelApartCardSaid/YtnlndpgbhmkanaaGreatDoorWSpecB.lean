/-
  spec.Index, at a key that is a text or a number from 0 on. (Printed by wip/gen_sidx.py.)
-/
import Derived.Test.YtnlndpgbhmkanaaGreatDoorWSpecA
namespace Go.Gj
set_option linter.unusedSimpArgs false
set_option linter.unusedVariables false
set_option linter.unnecessarySimpa false
open Go Go.RowKit Go.Proofs

theorem box_third (w : World) (o o' : Obj) (k h : Int) (t : ByteArray) (s1 s2 s3 : Value) : Box (((w.alloc o).alloc o').alloc (.cells #[.int .i64 k, .int .i64 h, .string t, s1, s2, s3] 26)) (w.heap.size + 1 + 1) k h t s1 s2 s3 := by
  have := Box.new ((w.alloc o).alloc o') k h t s1 s2 s3
  rw [World.size_alloc, World.size_alloc] at this
  exact this

set_option maxHeartbeats 400000 in
set_option maxRecDepth 100000 in
theorem sidx_0_4 (vh kh : Int) (vt kt : ByteArray) (a1 a2 a3 b1 b2 b3 : Option Addr) (n1 m1 n2 m2 n3 m3 i1 j1 i2 j2 i3 j3 : Nat) (w : World) :
    Calls Tryz.prog 48 #[.agg #[.int .i64 0, .int .i64 vh, .string vt, .slice a1 n1 m1, .slice a2 n2 m2, .slice a3 n3 m3], .agg #[.int .i64 4, .int .i64 kh, .string kt, .slice b1 i1 j1, .slice b2 i2 j2, .slice b3 i3 j3]] w fun e w' => e = .returned (.tuple #[zero6, .int .i64 0]) ∧ Below w.heap.size w w' := by
    go_enter Tryz.func48, Tryz.ntmps48
    go_wp2_with fail
    have HZZ := Lib.hid (box_third w (.cells #[.int .i64 0, .int .i64 vh, .string vt, .slice a1 n1 m1, .slice a2 n2 m2, .slice a3 n3 m3] 26) (.cells #[.int .i64 4, .int .i64 kh, .string kt, .slice b1 i1 j1, .slice b2 i2 j2, .slice b3 i3 j3] 26) 0 0 ⟨#[]⟩ (.slice none 0 0) (.slice none 0 0) (.slice none 0 0)).c
    refine bodyPost_ret (w := (((w.alloc (.cells #[.int .i64 0, .int .i64 vh, .string vt, .slice a1 n1 m1, .slice a2 n2 m2, .slice a3 n3 m3] 26)).alloc (.cells #[.int .i64 4, .int .i64 kh, .string kt, .slice b1 i1 j1, .slice b2 i2 j2, .slice b3 i3 j3] 26)).alloc (.cells #[.int .i64 0, .int .i64 0, .string ⟨#[]⟩, .slice none 0 0, .slice none 0 0, .slice none 0 0] 26))) (v := .tuple #[zero6, .int .i64 0]) ?_ rfl ?_
    · obtain ⟨y0, y1, y2, y3, y4, y5⟩ := HZZ.out
      simp [zero6, results, Tryz.results48, go_sem, y0, y1, y2, y3, y4, y5]
    · exact ⟨rfl, below3 w _ _ _⟩

set_option maxHeartbeats 400000 in
set_option maxRecDepth 100000 in
theorem sidx_0_3 (vh kh : Int) (vt kt : ByteArray) (a1 a2 a3 b1 b2 b3 : Option Addr) (n1 m1 n2 m2 n3 m3 i1 j1 i2 j2 i3 j3 : Nat) (w : World) :
    Calls Tryz.prog 48 #[.agg #[.int .i64 0, .int .i64 vh, .string vt, .slice a1 n1 m1, .slice a2 n2 m2, .slice a3 n3 m3], .agg #[.int .i64 3, .int .i64 kh, .string kt, .slice b1 i1 j1, .slice b2 i2 j2, .slice b3 i3 j3]] w fun e w' => e = .returned (.tuple #[zero6, .int .i64 0]) ∧ Below w.heap.size w w' := by
    go_enter Tryz.func48, Tryz.ntmps48
    go_wp2_with fail
    have HZZ := Lib.hid (box_third w (.cells #[.int .i64 0, .int .i64 vh, .string vt, .slice a1 n1 m1, .slice a2 n2 m2, .slice a3 n3 m3] 26) (.cells #[.int .i64 3, .int .i64 kh, .string kt, .slice b1 i1 j1, .slice b2 i2 j2, .slice b3 i3 j3] 26) 0 0 ⟨#[]⟩ (.slice none 0 0) (.slice none 0 0) (.slice none 0 0)).c
    refine bodyPost_ret (w := (((w.alloc (.cells #[.int .i64 0, .int .i64 vh, .string vt, .slice a1 n1 m1, .slice a2 n2 m2, .slice a3 n3 m3] 26)).alloc (.cells #[.int .i64 3, .int .i64 kh, .string kt, .slice b1 i1 j1, .slice b2 i2 j2, .slice b3 i3 j3] 26)).alloc (.cells #[.int .i64 0, .int .i64 0, .string ⟨#[]⟩, .slice none 0 0, .slice none 0 0, .slice none 0 0] 26))) (v := .tuple #[zero6, .int .i64 0]) ?_ rfl ?_
    · obtain ⟨y0, y1, y2, y3, y4, y5⟩ := HZZ.out
      simp [zero6, results, Tryz.results48, go_sem, y0, y1, y2, y3, y4, y5]
    · exact ⟨rfl, below3 w _ _ _⟩

set_option maxHeartbeats 400000 in
set_option maxRecDepth 100000 in
theorem sidx_4_3 (vh kh : Int) (vt kt : ByteArray) (a1 a2 a3 b1 b2 b3 : Option Addr) (n1 m1 n2 m2 n3 m3 i1 j1 i2 j2 i3 j3 : Nat) (w : World) :
    Calls Tryz.prog 48 #[.agg #[.int .i64 4, .int .i64 vh, .string vt, .slice a1 n1 m1, .slice a2 n2 m2, .slice a3 n3 m3], .agg #[.int .i64 3, .int .i64 kh, .string kt, .slice b1 i1 j1, .slice b2 i2 j2, .slice b3 i3 j3]] w fun e w' => e = .returned (.tuple #[zero6, .int .i64 2]) ∧ Below w.heap.size w w' := by
    go_enter Tryz.func48, Tryz.ntmps48
    go_wp2_with fail
    have HZZ := Lib.hid (box_third w (.cells #[.int .i64 4, .int .i64 vh, .string vt, .slice a1 n1 m1, .slice a2 n2 m2, .slice a3 n3 m3] 26) (.cells #[.int .i64 3, .int .i64 kh, .string kt, .slice b1 i1 j1, .slice b2 i2 j2, .slice b3 i3 j3] 26) 0 0 ⟨#[]⟩ (.slice none 0 0) (.slice none 0 0) (.slice none 0 0)).c
    refine bodyPost_ret (w := (((w.alloc (.cells #[.int .i64 4, .int .i64 vh, .string vt, .slice a1 n1 m1, .slice a2 n2 m2, .slice a3 n3 m3] 26)).alloc (.cells #[.int .i64 3, .int .i64 kh, .string kt, .slice b1 i1 j1, .slice b2 i2 j2, .slice b3 i3 j3] 26)).alloc (.cells #[.int .i64 0, .int .i64 0, .string ⟨#[]⟩, .slice none 0 0, .slice none 0 0, .slice none 0 0] 26))) (v := .tuple #[zero6, .int .i64 2]) ?_ rfl ?_
    · obtain ⟨y0, y1, y2, y3, y4, y5⟩ := HZZ.out
      simp [zero6, results, Tryz.results48, go_sem, y0, y1, y2, y3, y4, y5]
    · exact ⟨rfl, below3 w _ _ _⟩

set_option maxHeartbeats 400000 in
set_option maxRecDepth 100000 in
theorem sidx_1_4 (vh kh : Int) (vt kt : ByteArray) (a1 a2 a3 b1 b2 b3 : Option Addr) (n1 m1 n2 m2 n3 m3 i1 j1 i2 j2 i3 j3 : Nat) (w : World) :
    Calls Tryz.prog 48 #[.agg #[.int .i64 1, .int .i64 vh, .string vt, .slice a1 n1 m1, .slice a2 n2 m2, .slice a3 n3 m3], .agg #[.int .i64 4, .int .i64 kh, .string kt, .slice b1 i1 j1, .slice b2 i2 j2, .slice b3 i3 j3]] w fun e w' => e = .returned (.tuple #[zero6, .int .i64 1]) ∧ Below w.heap.size w w' := by
    go_enter Tryz.func48, Tryz.ntmps48
    go_wp2_with fail
    have HZZ := Lib.hid (box_third w (.cells #[.int .i64 1, .int .i64 vh, .string vt, .slice a1 n1 m1, .slice a2 n2 m2, .slice a3 n3 m3] 26) (.cells #[.int .i64 4, .int .i64 kh, .string kt, .slice b1 i1 j1, .slice b2 i2 j2, .slice b3 i3 j3] 26) 0 0 ⟨#[]⟩ (.slice none 0 0) (.slice none 0 0) (.slice none 0 0)).c
    refine bodyPost_ret (w := (((w.alloc (.cells #[.int .i64 1, .int .i64 vh, .string vt, .slice a1 n1 m1, .slice a2 n2 m2, .slice a3 n3 m3] 26)).alloc (.cells #[.int .i64 4, .int .i64 kh, .string kt, .slice b1 i1 j1, .slice b2 i2 j2, .slice b3 i3 j3] 26)).alloc (.cells #[.int .i64 0, .int .i64 0, .string ⟨#[]⟩, .slice none 0 0, .slice none 0 0, .slice none 0 0] 26))) (v := .tuple #[zero6, .int .i64 1]) ?_ rfl ?_
    · obtain ⟨y0, y1, y2, y3, y4, y5⟩ := HZZ.out
      simp [zero6, results, Tryz.results48, go_sem, y0, y1, y2, y3, y4, y5]
    · exact ⟨rfl, below3 w _ _ _⟩

set_option maxHeartbeats 400000 in
set_option maxRecDepth 100000 in
theorem sidx_2_4 (vh kh : Int) (vt kt : ByteArray) (a1 a2 a3 b1 b2 b3 : Option Addr) (n1 m1 n2 m2 n3 m3 i1 j1 i2 j2 i3 j3 : Nat) (w : World) :
    Calls Tryz.prog 48 #[.agg #[.int .i64 2, .int .i64 vh, .string vt, .slice a1 n1 m1, .slice a2 n2 m2, .slice a3 n3 m3], .agg #[.int .i64 4, .int .i64 kh, .string kt, .slice b1 i1 j1, .slice b2 i2 j2, .slice b3 i3 j3]] w fun e w' => e = .returned (.tuple #[zero6, .int .i64 1]) ∧ Below w.heap.size w w' := by
    go_enter Tryz.func48, Tryz.ntmps48
    go_wp2_with fail
    have HZZ := Lib.hid (box_third w (.cells #[.int .i64 2, .int .i64 vh, .string vt, .slice a1 n1 m1, .slice a2 n2 m2, .slice a3 n3 m3] 26) (.cells #[.int .i64 4, .int .i64 kh, .string kt, .slice b1 i1 j1, .slice b2 i2 j2, .slice b3 i3 j3] 26) 0 0 ⟨#[]⟩ (.slice none 0 0) (.slice none 0 0) (.slice none 0 0)).c
    refine bodyPost_ret (w := (((w.alloc (.cells #[.int .i64 2, .int .i64 vh, .string vt, .slice a1 n1 m1, .slice a2 n2 m2, .slice a3 n3 m3] 26)).alloc (.cells #[.int .i64 4, .int .i64 kh, .string kt, .slice b1 i1 j1, .slice b2 i2 j2, .slice b3 i3 j3] 26)).alloc (.cells #[.int .i64 0, .int .i64 0, .string ⟨#[]⟩, .slice none 0 0, .slice none 0 0, .slice none 0 0] 26))) (v := .tuple #[zero6, .int .i64 1]) ?_ rfl ?_
    · obtain ⟨y0, y1, y2, y3, y4, y5⟩ := HZZ.out
      simp [zero6, results, Tryz.results48, go_sem, y0, y1, y2, y3, y4, y5]
    · exact ⟨rfl, below3 w _ _ _⟩

set_option maxHeartbeats 400000 in
set_option maxRecDepth 100000 in
theorem sidx_3_4 (vh kh : Int) (vt kt : ByteArray) (a1 a2 a3 b1 b2 b3 : Option Addr) (n1 m1 n2 m2 n3 m3 i1 j1 i2 j2 i3 j3 : Nat) (w : World) :
    Calls Tryz.prog 48 #[.agg #[.int .i64 3, .int .i64 vh, .string vt, .slice a1 n1 m1, .slice a2 n2 m2, .slice a3 n3 m3], .agg #[.int .i64 4, .int .i64 kh, .string kt, .slice b1 i1 j1, .slice b2 i2 j2, .slice b3 i3 j3]] w fun e w' => e = .returned (.tuple #[zero6, .int .i64 1]) ∧ Below w.heap.size w w' := by
    go_enter Tryz.func48, Tryz.ntmps48
    go_wp2_with fail
    have HZZ := Lib.hid (box_third w (.cells #[.int .i64 3, .int .i64 vh, .string vt, .slice a1 n1 m1, .slice a2 n2 m2, .slice a3 n3 m3] 26) (.cells #[.int .i64 4, .int .i64 kh, .string kt, .slice b1 i1 j1, .slice b2 i2 j2, .slice b3 i3 j3] 26) 0 0 ⟨#[]⟩ (.slice none 0 0) (.slice none 0 0) (.slice none 0 0)).c
    refine bodyPost_ret (w := (((w.alloc (.cells #[.int .i64 3, .int .i64 vh, .string vt, .slice a1 n1 m1, .slice a2 n2 m2, .slice a3 n3 m3] 26)).alloc (.cells #[.int .i64 4, .int .i64 kh, .string kt, .slice b1 i1 j1, .slice b2 i2 j2, .slice b3 i3 j3] 26)).alloc (.cells #[.int .i64 0, .int .i64 0, .string ⟨#[]⟩, .slice none 0 0, .slice none 0 0, .slice none 0 0] 26))) (v := .tuple #[zero6, .int .i64 1]) ?_ rfl ?_
    · obtain ⟨y0, y1, y2, y3, y4, y5⟩ := HZZ.out
      simp [zero6, results, Tryz.results48, go_sem, y0, y1, y2, y3, y4, y5]
    · exact ⟨rfl, below3 w _ _ _⟩

set_option maxHeartbeats 400000 in
set_option maxRecDepth 100000 in
theorem sidx_4_4 (vh kh : Int) (vt kt : ByteArray) (a1 a2 a3 b1 b2 b3 : Option Addr) (n1 m1 n2 m2 n3 m3 i1 j1 i2 j2 i3 j3 : Nat) (w : World) :
    Calls Tryz.prog 48 #[.agg #[.int .i64 4, .int .i64 vh, .string vt, .slice a1 n1 m1, .slice a2 n2 m2, .slice a3 n3 m3], .agg #[.int .i64 4, .int .i64 kh, .string kt, .slice b1 i1 j1, .slice b2 i2 j2, .slice b3 i3 j3]] w fun e w' => e = .returned (.tuple #[zero6, .int .i64 1]) ∧ Below w.heap.size w w' := by
    go_enter Tryz.func48, Tryz.ntmps48
    go_wp2_with fail
    have HZZ := Lib.hid (box_third w (.cells #[.int .i64 4, .int .i64 vh, .string vt, .slice a1 n1 m1, .slice a2 n2 m2, .slice a3 n3 m3] 26) (.cells #[.int .i64 4, .int .i64 kh, .string kt, .slice b1 i1 j1, .slice b2 i2 j2, .slice b3 i3 j3] 26) 0 0 ⟨#[]⟩ (.slice none 0 0) (.slice none 0 0) (.slice none 0 0)).c
    refine bodyPost_ret (w := (((w.alloc (.cells #[.int .i64 4, .int .i64 vh, .string vt, .slice a1 n1 m1, .slice a2 n2 m2, .slice a3 n3 m3] 26)).alloc (.cells #[.int .i64 4, .int .i64 kh, .string kt, .slice b1 i1 j1, .slice b2 i2 j2, .slice b3 i3 j3] 26)).alloc (.cells #[.int .i64 0, .int .i64 0, .string ⟨#[]⟩, .slice none 0 0, .slice none 0 0, .slice none 0 0] 26))) (v := .tuple #[zero6, .int .i64 1]) ?_ rfl ?_
    · obtain ⟨y0, y1, y2, y3, y4, y5⟩ := HZZ.out
      simp [zero6, results, Tryz.results48, go_sem, y0, y1, y2, y3, y4, y5]
    · exact ⟨rfl, below3 w _ _ _⟩

set_option maxHeartbeats 400000 in
set_option maxRecDepth 100000 in
theorem sidx_5_4 (vh kh : Int) (vt kt : ByteArray) (a1 a2 a3 b1 b2 b3 : Option Addr) (n1 m1 n2 m2 n3 m3 i1 j1 i2 j2 i3 j3 : Nat) (w : World) :
    Calls Tryz.prog 48 #[.agg #[.int .i64 5, .int .i64 vh, .string vt, .slice a1 n1 m1, .slice a2 n2 m2, .slice a3 n3 m3], .agg #[.int .i64 4, .int .i64 kh, .string kt, .slice b1 i1 j1, .slice b2 i2 j2, .slice b3 i3 j3]] w fun e w' => e = .returned (.tuple #[zero6, .int .i64 1]) ∧ Below w.heap.size w w' := by
    go_enter Tryz.func48, Tryz.ntmps48
    go_wp2_with fail
    have HZZ := Lib.hid (box_third w (.cells #[.int .i64 5, .int .i64 vh, .string vt, .slice a1 n1 m1, .slice a2 n2 m2, .slice a3 n3 m3] 26) (.cells #[.int .i64 4, .int .i64 kh, .string kt, .slice b1 i1 j1, .slice b2 i2 j2, .slice b3 i3 j3] 26) 0 0 ⟨#[]⟩ (.slice none 0 0) (.slice none 0 0) (.slice none 0 0)).c
    refine bodyPost_ret (w := (((w.alloc (.cells #[.int .i64 5, .int .i64 vh, .string vt, .slice a1 n1 m1, .slice a2 n2 m2, .slice a3 n3 m3] 26)).alloc (.cells #[.int .i64 4, .int .i64 kh, .string kt, .slice b1 i1 j1, .slice b2 i2 j2, .slice b3 i3 j3] 26)).alloc (.cells #[.int .i64 0, .int .i64 0, .string ⟨#[]⟩, .slice none 0 0, .slice none 0 0, .slice none 0 0] 26))) (v := .tuple #[zero6, .int .i64 1]) ?_ rfl ?_
    · obtain ⟨y0, y1, y2, y3, y4, y5⟩ := HZZ.out
      simp [zero6, results, Tryz.results48, go_sem, y0, y1, y2, y3, y4, y5]
    · exact ⟨rfl, below3 w _ _ _⟩

set_option maxHeartbeats 400000 in
set_option maxRecDepth 100000 in
theorem sidx_1_3 (vh kh : Int) (vt kt : ByteArray) (a1 a2 a3 b1 b2 b3 : Option Addr) (n1 m1 n2 m2 n3 m3 i1 j1 i2 j2 i3 j3 : Nat) (w : World) :
    Calls Tryz.prog 48 #[.agg #[.int .i64 1, .int .i64 vh, .string vt, .slice a1 n1 m1, .slice a2 n2 m2, .slice a3 n3 m3], .agg #[.int .i64 3, .int .i64 kh, .string kt, .slice b1 i1 j1, .slice b2 i2 j2, .slice b3 i3 j3]] w fun e w' => e = .returned (.tuple #[zero6, .int .i64 1]) ∧ Below w.heap.size w w' := by
    go_enter Tryz.func48, Tryz.ntmps48
    go_wp2_with fail
    have HZZ := Lib.hid (box_third w (.cells #[.int .i64 1, .int .i64 vh, .string vt, .slice a1 n1 m1, .slice a2 n2 m2, .slice a3 n3 m3] 26) (.cells #[.int .i64 3, .int .i64 kh, .string kt, .slice b1 i1 j1, .slice b2 i2 j2, .slice b3 i3 j3] 26) 0 0 ⟨#[]⟩ (.slice none 0 0) (.slice none 0 0) (.slice none 0 0)).c
    refine bodyPost_ret (w := (((w.alloc (.cells #[.int .i64 1, .int .i64 vh, .string vt, .slice a1 n1 m1, .slice a2 n2 m2, .slice a3 n3 m3] 26)).alloc (.cells #[.int .i64 3, .int .i64 kh, .string kt, .slice b1 i1 j1, .slice b2 i2 j2, .slice b3 i3 j3] 26)).alloc (.cells #[.int .i64 0, .int .i64 0, .string ⟨#[]⟩, .slice none 0 0, .slice none 0 0, .slice none 0 0] 26))) (v := .tuple #[zero6, .int .i64 1]) ?_ rfl ?_
    · obtain ⟨y0, y1, y2, y3, y4, y5⟩ := HZZ.out
      simp [zero6, results, Tryz.results48, go_sem, y0, y1, y2, y3, y4, y5]
    · exact ⟨rfl, below3 w _ _ _⟩

set_option maxHeartbeats 400000 in
set_option maxRecDepth 100000 in
theorem sidx_2_3 (vh kh : Int) (vt kt : ByteArray) (a1 a2 a3 b1 b2 b3 : Option Addr) (n1 m1 n2 m2 n3 m3 i1 j1 i2 j2 i3 j3 : Nat) (w : World) :
    Calls Tryz.prog 48 #[.agg #[.int .i64 2, .int .i64 vh, .string vt, .slice a1 n1 m1, .slice a2 n2 m2, .slice a3 n3 m3], .agg #[.int .i64 3, .int .i64 kh, .string kt, .slice b1 i1 j1, .slice b2 i2 j2, .slice b3 i3 j3]] w fun e w' => e = .returned (.tuple #[zero6, .int .i64 1]) ∧ Below w.heap.size w w' := by
    go_enter Tryz.func48, Tryz.ntmps48
    go_wp2_with fail
    have HZZ := Lib.hid (box_third w (.cells #[.int .i64 2, .int .i64 vh, .string vt, .slice a1 n1 m1, .slice a2 n2 m2, .slice a3 n3 m3] 26) (.cells #[.int .i64 3, .int .i64 kh, .string kt, .slice b1 i1 j1, .slice b2 i2 j2, .slice b3 i3 j3] 26) 0 0 ⟨#[]⟩ (.slice none 0 0) (.slice none 0 0) (.slice none 0 0)).c
    refine bodyPost_ret (w := (((w.alloc (.cells #[.int .i64 2, .int .i64 vh, .string vt, .slice a1 n1 m1, .slice a2 n2 m2, .slice a3 n3 m3] 26)).alloc (.cells #[.int .i64 3, .int .i64 kh, .string kt, .slice b1 i1 j1, .slice b2 i2 j2, .slice b3 i3 j3] 26)).alloc (.cells #[.int .i64 0, .int .i64 0, .string ⟨#[]⟩, .slice none 0 0, .slice none 0 0, .slice none 0 0] 26))) (v := .tuple #[zero6, .int .i64 1]) ?_ rfl ?_
    · obtain ⟨y0, y1, y2, y3, y4, y5⟩ := HZZ.out
      simp [zero6, results, Tryz.results48, go_sem, y0, y1, y2, y3, y4, y5]
    · exact ⟨rfl, below3 w _ _ _⟩

set_option maxHeartbeats 400000 in
set_option maxRecDepth 100000 in
theorem sidx_3_3 (vh kh : Int) (vt kt : ByteArray) (a1 a2 a3 b1 b2 b3 : Option Addr) (n1 m1 n2 m2 n3 m3 i1 j1 i2 j2 i3 j3 : Nat) (w : World) :
    Calls Tryz.prog 48 #[.agg #[.int .i64 3, .int .i64 vh, .string vt, .slice a1 n1 m1, .slice a2 n2 m2, .slice a3 n3 m3], .agg #[.int .i64 3, .int .i64 kh, .string kt, .slice b1 i1 j1, .slice b2 i2 j2, .slice b3 i3 j3]] w fun e w' => e = .returned (.tuple #[zero6, .int .i64 1]) ∧ Below w.heap.size w w' := by
    go_enter Tryz.func48, Tryz.ntmps48
    go_wp2_with fail
    have HZZ := Lib.hid (box_third w (.cells #[.int .i64 3, .int .i64 vh, .string vt, .slice a1 n1 m1, .slice a2 n2 m2, .slice a3 n3 m3] 26) (.cells #[.int .i64 3, .int .i64 kh, .string kt, .slice b1 i1 j1, .slice b2 i2 j2, .slice b3 i3 j3] 26) 0 0 ⟨#[]⟩ (.slice none 0 0) (.slice none 0 0) (.slice none 0 0)).c
    refine bodyPost_ret (w := (((w.alloc (.cells #[.int .i64 3, .int .i64 vh, .string vt, .slice a1 n1 m1, .slice a2 n2 m2, .slice a3 n3 m3] 26)).alloc (.cells #[.int .i64 3, .int .i64 kh, .string kt, .slice b1 i1 j1, .slice b2 i2 j2, .slice b3 i3 j3] 26)).alloc (.cells #[.int .i64 0, .int .i64 0, .string ⟨#[]⟩, .slice none 0 0, .slice none 0 0, .slice none 0 0] 26))) (v := .tuple #[zero6, .int .i64 1]) ?_ rfl ?_
    · obtain ⟨y0, y1, y2, y3, y4, y5⟩ := HZZ.out
      simp [zero6, results, Tryz.results48, go_sem, y0, y1, y2, y3, y4, y5]
    · exact ⟨rfl, below3 w _ _ _⟩

set_option maxHeartbeats 400000 in
set_option maxRecDepth 100000 in
theorem sidx_6_3 (vh kh : Int) (vt kt : ByteArray) (a1 a2 a3 b1 b2 b3 : Option Addr) (n1 m1 n2 m2 n3 m3 i1 j1 i2 j2 i3 j3 : Nat) (w : World) :
    Calls Tryz.prog 48 #[.agg #[.int .i64 6, .int .i64 vh, .string vt, .slice a1 n1 m1, .slice a2 n2 m2, .slice a3 n3 m3], .agg #[.int .i64 3, .int .i64 kh, .string kt, .slice b1 i1 j1, .slice b2 i2 j2, .slice b3 i3 j3]] w fun e w' => e = .returned (.tuple #[zero6, .int .i64 1]) ∧ Below w.heap.size w w' := by
    go_enter Tryz.func48, Tryz.ntmps48
    go_wp2_with fail
    have HZZ := Lib.hid (box_third w (.cells #[.int .i64 6, .int .i64 vh, .string vt, .slice a1 n1 m1, .slice a2 n2 m2, .slice a3 n3 m3] 26) (.cells #[.int .i64 3, .int .i64 kh, .string kt, .slice b1 i1 j1, .slice b2 i2 j2, .slice b3 i3 j3] 26) 0 0 ⟨#[]⟩ (.slice none 0 0) (.slice none 0 0) (.slice none 0 0)).c
    refine bodyPost_ret (w := (((w.alloc (.cells #[.int .i64 6, .int .i64 vh, .string vt, .slice a1 n1 m1, .slice a2 n2 m2, .slice a3 n3 m3] 26)).alloc (.cells #[.int .i64 3, .int .i64 kh, .string kt, .slice b1 i1 j1, .slice b2 i2 j2, .slice b3 i3 j3] 26)).alloc (.cells #[.int .i64 0, .int .i64 0, .string ⟨#[]⟩, .slice none 0 0, .slice none 0 0, .slice none 0 0] 26))) (v := .tuple #[zero6, .int .i64 1]) ?_ rfl ?_
    · obtain ⟨y0, y1, y2, y3, y4, y5⟩ := HZZ.out
      simp [zero6, results, Tryz.results48, go_sem, y0, y1, y2, y3, y4, y5]
    · exact ⟨rfl, below3 w _ _ _⟩

end Go.Gj
