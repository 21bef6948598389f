/-
  spec.looker: the three small methods.
-/
import Derived.Test.YtnlndpgbhmkanaaGreatDoorTabL
import Derived.Test.YtnlndpgbhmkanaaGreatDoorKitX
namespace Go.Gj
open Go Go.RowKit Go.Proofs

/-- Blocks are as they were, but one; new ones may be there. -/
structure Bex (b : Nat) (w w' : World) : Prop where
  os : w'.os = w.os
  tape : w'.tape = w.tape
  output : w'.output = w.output
  size : w.heap.size ≤ w'.heap.size
  block : ∀ k, k < w.heap.size → k ≠ b → w'.heap[k]? = w.heap[k]?

theorem Bex.refl (b : Nat) (w : World) : Bex b w w := ⟨rfl, rfl, rfl, Nat.le_refl _, fun _ _ _ => rfl⟩
theorem Bex.trans {b : Nat} {w w' w'' : World} (h : Bex b w w') (k : Bex b w' w'') : Bex b w w'' :=
  ⟨k.os.trans h.os, k.tape.trans h.tape, k.output.trans h.output, Nat.le_trans h.size k.size, fun i hi hb => (k.block i (Nat.lt_of_lt_of_le hi h.size) hb).trans (h.block i hi hb)⟩
theorem Bex.of_below {b : Nat} {w w' : World} (h : Below w.heap.size w w') : Bex b w w' := ⟨h.os, h.tape, h.output, h.size, fun k hk _ => h.block k hk⟩
theorem Bex.below {b B : Nat} {w w' : World} (h : Bex b w w') (hB : B ≤ w.heap.size) (hb : B ≤ b) : Below B w w' := ⟨h.os, h.tape, h.output, h.size, fun k hk => h.block k (by omega) (by omega)⟩
theorem Bex.setCell {b o : Nat} (w : World) (v : Value) : Bex b w (w.setCell ⟨b, o, none⟩ v) :=
  ⟨rfl, rfl, rfl, by simp [World.setCell], fun k _ hk => Below.heap_setCell _ _ _ _ hk⟩
theorem Bex.cell {b : Nat} {w w' : World} (h : Bex b w w') {k o : Nat} (hk : k < w.heap.size) (hb : k ≠ b) : w'.cell? ⟨k, o, none⟩ = w.cell? ⟨k, o, none⟩ :=
  World.cell?_of_block (w := w) (h.block k hk hb)
theorem Bex.frozen {b : Nat} {w w' : World} (h : Bex b w w') {k o : Nat} (hk : k < w.heap.size) (hb : k ≠ b) : w'.frozen? ⟨k, o, none⟩ = w.frozen? ⟨k, o, none⟩ :=
  World.frozen?_of_block (w := w) (h.block k hk hb)
theorem Bex.same {b : Nat} {w w' : World} (h : Bex b w w') {S : Nat → Prop} (hS : ∀ k, S k → k < w.heap.size ∧ k ≠ b) : Same S w w' := fun k hk => h.block k (hS k hk).1 (hS k hk).2

/-- The looker's block. -/
def LK (w : World) (b : Nat) (p q : Int) (bad : Bool) : Prop := w.heap[b]? = some (.cells #[.int .i64 p, .int .i64 q, .bool bad] 76)

theorem LK.c0 {w : World} {b : Nat} {p q : Int} {bad : Bool} (h : LK w b p q bad) : w.cell? ⟨b, 0, none⟩ = some (.int .i64 p) := by
  unfold LK at h; simp [World.cell?, h]
theorem LK.c1 {w : World} {b : Nat} {p q : Int} {bad : Bool} (h : LK w b p q bad) : w.cell? ⟨b, 1, none⟩ = some (.int .i64 q) := by
  unfold LK at h; simp [World.cell?, h]
theorem LK.c2 {w : World} {b : Nat} {p q : Int} {bad : Bool} (h : LK w b p q bad) : w.cell? ⟨b, 2, none⟩ = some (.bool bad) := by
  unfold LK at h; simp [World.cell?, h]
theorem LK.fr {w : World} {b : Nat} {p q : Int} {bad : Bool} (h : LK w b p q bad) (o : Nat) : w.frozen? ⟨b, o, none⟩ = false := by
  unfold LK at h; simp only [World.frozen?, h]; simp
theorem LK.lt {w : World} {b : Nat} {p q : Int} {bad : Bool} (h : LK w b p q bad) : b < w.heap.size := by
  unfold LK at h; exact (Array.getElem?_eq_some_iff.1 h).1
theorem LK.set0 {w : World} {b : Nat} {p q : Int} {bad : Bool} (h : LK w b p q bad) (p' : Int) : LK (w.setCell ⟨b, 0, none⟩ (.int .i64 p')) b p' q bad := by
  unfold LK at *; simp [World.setCell, Array.getElem?_modify, h]
theorem LK.set1 {w : World} {b : Nat} {p q : Int} {bad : Bool} (h : LK w b p q bad) (q' : Int) : LK (w.setCell ⟨b, 1, none⟩ (.int .i64 q')) b p q' bad := by
  unfold LK at *; simp [World.setCell, Array.getElem?_modify, h]
theorem LK.set2 {w : World} {b : Nat} {p q : Int} {bad : Bool} (h : LK w b p q bad) (bad' : Bool) : LK (w.setCell ⟨b, 2, none⟩ (.bool bad')) b p q bad' := by
  unfold LK at *; simp [World.setCell, Array.getElem?_modify, h]
theorem LK.of_bex {b' b : Nat} {w w' : World} {p q : Int} {bad : Bool} (h : LK w b p q bad) (hb : Bex b' w w') (hn : b ≠ b') : LK w' b p q bad := (hb.block b h.lt hn).trans h
theorem LK.of_below {B b : Nat} {w w' : World} {p q : Int} {bad : Bool} (h : LK w b p q bad) (hb : Below B w w') (hn : b < B) : LK w' b p q bad := (hb.block b hn).trans h

theorem want_ok (b : Nat) (p q : Int) (bad ok : Bool) (w : World) (h : LK w b p q bad) :
    Calls Tryz.prog 94 #[.pointer (some ⟨b, 0, none⟩), .bool ok] w fun e w' => e = .returned (.tuple #[]) ∧ LK w' b p q (bad || !ok) ∧ Bex b w w' := by
  have h2 := h.c2
  have hf := h.fr 2
  have hr : LK (w.setCell ⟨b, 2, none⟩ (.bool (bad || !ok))) b p q (bad || !ok) ∧ Bex b w (w.setCell ⟨b, 2, none⟩ (.bool (bad || !ok))) := ⟨h.set2 _, Bex.setCell _ _⟩
  have HR := Lib.hid hr
  clear hr h
  cases bad
  · go_enter Tryz.func94, Tryz.ntmps94
    go_wp2
    go_end0
    exact ⟨rfl, by simpa using HR.out⟩
  · go_enter Tryz.func94, Tryz.ntmps94
    go_wp2
    go_end0
    exact ⟨rfl, by simpa using HR.out⟩

theorem part_ok (b : Nat) (p q d : Int) (bad : Bool) (w : World) (h : LK w b p q bad) (hp : 0 ≤ p) (hp2 : p ≤ 1000) :
    Calls Tryz.prog 93 #[.pointer (some ⟨b, 0, none⟩), .int .i64 d] w fun e w' => ∃ bad', e = .returned (.bool !bad') ∧ LK w' b (p + 1) q bad' ∧ Bex b w w' ∧ (bad' = false → bad = false ∧ p + 1 ≤ 400 ∧ q ≤ 2000 ∧ d ≤ 60) := by
  have h0 := h.c0
  have hf := h.fr 0
  have hr := h.set0 (p + 1)
  have hb : Bex b w (w.setCell ⟨b, 0, none⟩ (.int .i64 (p + 1))) := Bex.setCell _ _
  have HR := Lib.hid hr
  have HB := Lib.hid hb
  have h1 := hr.c1
  clear hr hb h
  by_cases t1 : p + 1 ≤ 400
  · by_cases t2 : q ≤ 2000
    · go_enter Tryz.func93, Tryz.ntmps93
      go_wp2_with fail
      refine (want_ok b _ _ _ _ _ HR.out).mono ?_
      rintro e w' ⟨rfl, hl, hbx⟩
      have c2 := hl.c2
      have HL := Lib.hid hl
      clear hl
      go_wp2_with fail
      go_ret
      refine ⟨bad || !decide (d ≤ 60), by simp, HL.out, HB.out.trans hbx, ?_⟩
      intro hh
      simp at hh
      exact ⟨hh.1, t1, t2, hh.2⟩
    · go_enter Tryz.func93, Tryz.ntmps93
      go_wp2_with fail
      refine (want_ok b _ _ _ _ _ HR.out).mono ?_
      rintro e w' ⟨rfl, hl, hbx⟩
      have c2 := hl.c2
      have HL := Lib.hid hl
      clear hl
      go_wp2_with fail
      go_ret
      exact ⟨true, by simp, by simpa using HL.out, HB.out.trans hbx, fun hh => by cases hh⟩
  · go_enter Tryz.func93, Tryz.ntmps93
    go_wp2_with fail
    refine (want_ok b _ _ _ _ _ HR.out).mono ?_
    rintro e w' ⟨rfl, hl, hbx⟩
    have c2 := hl.c2
    have HL := Lib.hid hl
    clear hl
    go_wp2_with fail
    go_ret
    exact ⟨true, by simp, by simpa using HL.out, HB.out.trans hbx, fun hh => by cases hh⟩

theorem str_ok (b : Nat) (p q : Int) (bad : Bool) (s : ByteArray) (w : World) (h : LK w b p q bad) (hT : ∀ w', Bex b w w' → Tabs w') (hs : s.size ≤ mostLen) (hq : 0 ≤ q) (hq2 : q ≤ 1000000000000000000) :
    Calls Tryz.prog 95 #[.pointer (some ⟨b, 0, none⟩), .string s] w fun e w' => e = .returned (.tuple #[]) ∧ ∃ bad', LK w' b p (q + s.size) bad' ∧ Bex b w w' ∧ (bad' = false → bad = false ∧ q + s.size ≤ 2000) := by
  have h1 := h.c1
  have hf := h.fr 1
  have hr := h.set1 (q + s.size)
  have hb : Bex b w (w.setCell ⟨b, 1, none⟩ (.int .i64 (q + s.size))) := Bex.setCell _ _
  have HR := Lib.hid hr
  have HB := Lib.hid hb
  have HS := Lib.hid hs
  unfold mostLen at hs
  clear hr hb h
  by_cases t1 : q + s.size ≤ 2000
  · go_enter Tryz.func95, Tryz.ntmps95
    go_wp2_with fail
    refine (valid_ok s _ (hT _ HB.out) HS.out).mono ?_
    rintro e w1 ⟨r, rfl, hb1⟩
    go_wp2_with fail
    refine (want_ok b _ _ _ _ _ (HR.out.of_below hb1 HR.out.lt)).mono ?_
    rintro e w' ⟨rfl, hl, hbx⟩
    have HL := Lib.hid hl
    clear hl
    go_wp2_with fail
    go_end0
    refine ⟨rfl, _, HL.out, (HB.out.trans (Bex.of_below hb1)).trans hbx, ?_⟩
    intro hh
    simp at hh
    exact ⟨hh.1, t1⟩
  · go_enter Tryz.func95, Tryz.ntmps95
    go_wp2_with fail
    refine (want_ok b _ _ _ _ _ HR.out).mono ?_
    rintro e w' ⟨rfl, hl, hbx⟩
    have HL := Lib.hid hl
    clear hl
    go_wp2_with fail
    go_end0
    refine ⟨rfl, _, HL.out, HB.out.trans hbx, ?_⟩
    intro hh
    simp at hh
end Go.Gj
