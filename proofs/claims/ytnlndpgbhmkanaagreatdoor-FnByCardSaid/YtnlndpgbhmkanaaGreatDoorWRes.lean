/-
  impl.result: what a function gives, as a record.
-/
import Derived.Test.YtnlndpgbhmkanaaGreatDoorWHalf
namespace Go.Gj
open Go Go.RowKit Go.Proofs

theorem err_no {w : World} {S : Nat → Prop} {x : J} {v : Value} (h : ARep w S x v) (w' : World) : (Instr.typeAssert v 20 87 true).run Tryz.prog w' = .ok (.tuple #[.nilIface, .bool false]) w' := by
  cases x with
  | null => rw [show v = .nilIface from h]; exact as_nil_87 w'
  | bool b => rw [show v = .iface 4 (.bool b) from h]; exact as_4_87 _ w'
  | num n => rcases h with ⟨_, _, _, rfl⟩ | ⟨_, _, rfl⟩; exact as_3_87 _ w'; exact as_79_87 _ w'
  | str s => rw [h.1]; exact as_9_87 _ w'
  | arr l => obtain ⟨b, o, c, rfl, _⟩ := h; exact as_80_87 _ w'
  | obj ks vs => obtain ⟨r, es, clk, rfl, _⟩ := h; exact as_83_87 _ w'

theorem JRep.shape6 {w : World} {S : Nat → Prop} {x : J} {c0 c1 c2 c3 c4 c5 : Value} (h : JRep w S x (.agg #[c0, c1, c2, c3, c4, c5])) :
    ∃ rk rh rt a1 n1 m1 a2 n2 m2 a3 n3 m3, c0 = .int .i64 rk ∧ c1 = .int .i64 rh ∧ c2 = .string rt ∧ c3 = .slice a1 n1 m1 ∧ c4 = .slice a2 n2 m2 ∧ c5 = .slice a3 n3 m3 := by
  obtain ⟨s1, s2, s3, hagg, _, j1, j2, j3⟩ := h.parts
  obtain ⟨aa1, ac1, rfl, _⟩ := j1.at
  obtain ⟨aa2, ac2, rfl, _⟩ := j2.at
  obtain ⟨aa3, ac3, rfl, _⟩ := j3.at
  obtain ⟨rfl, rfl, rfl, rfl, rfl, rfl⟩ : c0 = .int .i64 x.kind ∧ c1 = .int .i64 x.half ∧ c2 = .string x.text ∧ c3 = .slice aa1 x.list.length ac1 ∧ c4 = .slice aa2 x.keys.length ac2 ∧ c5 = .slice aa3 x.vals.length ac3 := by simpa using hagg
  exact ⟨_, _, _, _, _, _, _, _, _, _, _, _, rfl, rfl, rfl, rfl, rfl, rfl⟩

/-- A block that holds a record impl.Res. -/
def Box7 (w : World) (B : Nat) (k h : Int) (t : ByteArray) (s1 s2 s3 : Value) (en : Int) : Prop := w.heap[B]? = some (.cells #[.int .i64 k, .int .i64 h, .string t, s1, s2, s3, .int .i64 en] 35)
theorem Box7.c {w : World} {B : Nat} {k h : Int} {t : ByteArray} {s1 s2 s3 : Value} {en : Int} (hb : Box7 w B k h t s1 s2 s3 en) :
    w.cell? ⟨B, 0, none⟩ = some (.int .i64 k) ∧ w.cell? ⟨B, 1, none⟩ = some (.int .i64 h) ∧ w.cell? ⟨B, 2, none⟩ = some (.string t) ∧
    w.cell? ⟨B, 3, none⟩ = some s1 ∧ w.cell? ⟨B, 4, none⟩ = some s2 ∧ w.cell? ⟨B, 5, none⟩ = some s3 ∧ w.cell? ⟨B, 6, none⟩ = some (.int .i64 en) := by
  unfold Box7 at hb; simp [World.cell?, hb]
theorem Box7.f {w : World} {B : Nat} {k h : Int} {t : ByteArray} {s1 s2 s3 : Value} {en : Int} (hb : Box7 w B k h t s1 s2 s3 en) (o : Nat) : w.frozen? ⟨B, o, none⟩ = false := by
  unfold Box7 at hb; simp [World.frozen?, hb]
theorem Box7.new (w : World) (k h : Int) (t : ByteArray) (s1 s2 s3 : Value) (en : Int) : Box7 (w.alloc (.cells #[.int .i64 k, .int .i64 h, .string t, s1, s2, s3, .int .i64 en] 35)) w.heap.size k h t s1 s2 s3 en := by
  unfold Box7; rw [show (w.alloc (.cells #[.int .i64 k, .int .i64 h, .string t, s1, s2, s3, .int .i64 en] 35)).heap = w.heap.push (.cells #[.int .i64 k, .int .i64 h, .string t, s1, s2, s3, .int .i64 en] 35) from rfl, Array.getElem?_push_size]
def set7 (w : World) (b : Nat) (c0 c1 c2 c3 c4 c5 c6 : Value) : World := (set6 w b c0 c1 c2 c3 c4 c5).setCell ⟨b, 6, none⟩ c6
theorem below_set7 {B b : Nat} {w : World} (h : B ≤ b) (c0 c1 c2 c3 c4 c5 c6 : Value) : Below B w (set7 w b c0 c1 c2 c3 c4 c5 c6) := (below_set6 h c0 c1 c2 c3 c4 c5).setCell (p := ⟨b, 6, none⟩) h c6
theorem set7_other {b : Nat} {w : World} (c0 c1 c2 c3 c4 c5 c6 : Value) (k : Nat) (hk : k ≠ b) : (set7 w b c0 c1 c2 c3 c4 c5 c6).heap[k]? = w.heap[k]? := by
  unfold set7; rw [Below.heap_setCell _ _ _ _ hk, set6_other _ _ _ _ _ _ _ hk]
theorem set7_size {b : Nat} {w : World} (c0 c1 c2 c3 c4 c5 c6 : Value) : (set7 w b c0 c1 c2 c3 c4 c5 c6).heap.size = w.heap.size := by simp [set7, set6, World.setCell]
theorem set7_box {b : Nat} {w : World} {k h : Int} {t : ByteArray} {s1 s2 s3 : Value} {en : Int} (hb : Box7 w b k h t s1 s2 s3 en) {k' h' : Int} {t' : ByteArray} {r1 r2 r3 : Value} {en' : Int} :
    Box7 (set7 w b (.int .i64 k') (.int .i64 h') (.string t') r1 r2 r3 (.int .i64 en')) b k' h' t' r1 r2 r3 en' := by
  unfold Box7 at hb ⊢
  simp [set7, set6, World.setCell, Array.getElem?_modify, hb]

set_option maxRecDepth 100000 in
theorem result_ok (x : J) (hx : x.sz) (hf : FromGoOk x) (w : World) (S : Nat → Prop) (v : Value) (hS : ∀ b, S b → b < w.heap.size) (hr : ARep w S x v) :
    Calls Tryz.prog 50 #[v] w fun e w' => ∃ c0 c1 c2 c3 c4 c5, e = .returned (.agg #[c0, c1, c2, c3, c4, c5, .int .i64 0]) ∧ Below w.heap.size w w' ∧ JRep w' (since w.heap.size w') x (.agg #[c0, c1, c2, c3, c4, c5]) := by
  have hB := below1 w (.cells #[.int .i64 0, .int .i64 0, .string ⟨#[]⟩, .slice none 0 0, .slice none 0 0, .slice none 0 0, .int .i64 0] 35)
  have hC := hf _ S v hx (lt_below hB hS) (hr.below hB hS)
  have hbx := Box7.new w 0 0 ⟨#[]⟩ (.slice none 0 0) (.slice none 0 0) (.slice none 0 0) 0
  have HBX := Lib.hid hbx
  rw [size_alloc] at hC
  have HC := Lib.hid hC
  have hea := err_no hr
  have hsh := hr.shape
  clear hC hbx hB hr
  rcases hsh with rfl | ⟨gt, gv, rfl⟩
  all_goals
    go_enter Tryz.func50, Tryz.ntmps50
    go_upto_region 4 with fail
    go_wp2_with (go_at_call 77; refine HC.out.mono ?_; rintro e w' ⟨c0, c1, c2, c3, c4, c5, rfl, hb', hjr⟩; obtain ⟨rk, rh, rt, a1, n1, m1, a2, n2, m2, a3, n3, m3, rfl, rfl, rfl, rfl, rfl, rfl⟩ := hjr.shape6; have hbx : Box7 w' w.heap.size 0 0 ⟨#[]⟩ (.slice none 0 0) (.slice none 0 0) (.slice none 0 0) 0 := (hb'.block _ (by omega)).trans HBX.out; have hby : Box7 (w'.alloc (.cells #[.int .i64 rk, .int .i64 rh, .string rt, .slice a1 n1 m1, .slice a2 n2 m2, .slice a3 n3 m3] 26)) w.heap.size 0 0 ⟨#[]⟩ (.slice none 0 0) (.slice none 0 0) (.slice none 0 0) 0 := (Below.heap_alloc w' (.cells #[.int .i64 rk, .int .i64 rh, .string rt, .slice a1 n1 m1, .slice a2 n2 m2, .slice a3 n3 m3] 26) w.heap.size (by have := hb'.size; rw [size_alloc] at this; omega)).trans hbx; obtain ⟨z0, z1, z2, z3, z4, z5, z6⟩ := hby.c; have zf := hby.f; have hne : w.heap.size ≠ w'.heap.size := (by have := hb'.size; rw [size_alloc] at this; omega); have hne2 : w'.heap.size ≠ w.heap.size := Ne.symm hne; have HBB := Lib.hid hb'; have HJ := Lib.hid hjr; have HBX2 := Lib.hid hby; clear hb' hbx hjr hby)
    have HZZ := Lib.hid (set7_box HBX2.out (k' := rk) (h' := rh) (t' := rt) (r1 := .slice a1 n1 m1) (r2 := .slice a2 n2 m2) (r3 := .slice a3 n3 m3) (en' := 0)).c
    have HR : Hid (Below w.heap.size w (set7 (w'.alloc (.cells #[.int .i64 rk, .int .i64 rh, .string rt, .slice a1 n1 m1, .slice a2 n2 m2, .slice a3 n3 m3] 26)) w.heap.size (.int .i64 rk) (.int .i64 rh) (.string rt) (.slice a1 n1 m1) (.slice a2 n2 m2) (.slice a3 n3 m3) (.int .i64 0)) ∧ JRep (set7 (w'.alloc (.cells #[.int .i64 rk, .int .i64 rh, .string rt, .slice a1 n1 m1, .slice a2 n2 m2, .slice a3 n3 m3] 26)) w.heap.size (.int .i64 rk) (.int .i64 rh) (.string rt) (.slice a1 n1 m1) (.slice a2 n2 m2) (.slice a3 n3 m3) (.int .i64 0)) (since w.heap.size (set7 (w'.alloc (.cells #[.int .i64 rk, .int .i64 rh, .string rt, .slice a1 n1 m1, .slice a2 n2 m2, .slice a3 n3 m3] 26)) w.heap.size (.int .i64 rk) (.int .i64 rh) (.string rt) (.slice a1 n1 m1) (.slice a2 n2 m2) (.slice a3 n3 m3) (.int .i64 0))) x (.agg #[.int .i64 rk, .int .i64 rh, .string rt, .slice a1 n1 m1, .slice a2 n2 m2, .slice a3 n3 m3])) :=
      Lib.hid ⟨(((below1 w _).trans (HBB.out.mono (Nat.le_succ _))).alloc (by have := HBB.out.size; rw [size_alloc] at this; omega) _).trans (below_set7 (Nat.le_refl _) _ _ _ _ _ _ _),
        HJ.out.keep (fun b hb => (set7_other _ _ _ _ _ _ _ b (by have := hb.1; omega)).trans (Below.heap_alloc _ _ _ hb.2)) (fun b hb => ⟨Nat.le_trans (Nat.le_succ _) hb.1, by rw [set7_size, size_alloc]; exact Nat.lt_succ_of_lt hb.2⟩)⟩
    refine bodyPost_ret (w := (set7 (w'.alloc (.cells #[.int .i64 rk, .int .i64 rh, .string rt, .slice a1 n1 m1, .slice a2 n2 m2, .slice a3 n3 m3] 26)) w.heap.size (.int .i64 rk) (.int .i64 rh) (.string rt) (.slice a1 n1 m1) (.slice a2 n2 m2) (.slice a3 n3 m3) (.int .i64 0))) (v := .agg #[.int .i64 rk, .int .i64 rh, .string rt, .slice a1 n1 m1, .slice a2 n2 m2, .slice a3 n3 m3, .int .i64 0]) ?_ rfl ?_
    · obtain ⟨y0, y1, y2, y3, y4, y5, y6⟩ := HZZ.out
      simp [results, Tryz.results50, go_sem, y0, y1, y2, y3, y4, y5, y6]
    · exact ⟨_, _, _, _, _, _, rfl, HR.out.1, HR.out.2⟩
end Go.Gj
