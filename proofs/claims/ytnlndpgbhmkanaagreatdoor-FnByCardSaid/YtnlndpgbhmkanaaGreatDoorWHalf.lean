/-
  impl.fromGo: values of any become records, in new memory.
-/
import Derived.Test.YtnlndpgbhmkanaaGreatDoorWToGo3
import Derived.Test.YtnlndpgbhmkanaaGreatDoorWFitB
import Derived.Test.YtnlndpgbhmkanaaGreatDoorErrL
import Derived.Test.YtnlndpgbhmkanaaGreatDoorPlG
import Derived.Laws.Externs
namespace Go.Gj
open Go Go.RowKit Go.Proofs

mutual
/-- Sized: what fromGo takes. -/
def J.sz : J → Prop
  | .null => True
  | .bool _ => True
  | .num _ => True
  | .str _ => True
  | .arr l => l.length ≤ lim ∧ J.szs l
  | .obj ks vs => ks.length = vs.length ∧ ks.length ≤ lim ∧ rises ks ∧ J.szs vs
def J.szs : List J → Prop
  | [] => True
  | x :: xs => x.sz ∧ J.szs xs
end
theorem szs_iff (l : List J) : J.szs l ↔ ∀ x ∈ l, x.sz := by
  induction l with
  | nil => simp [J.szs]
  | cons x xs ih => simp [J.szs, ih]

def FromGoOk (x : J) : Prop := ∀ (w : World) (S : Nat → Prop) (v : Value), x.sz → (∀ b, S b → b < w.heap.size) → ARep w S x v →
  Calls Tryz.prog 77 #[v] w fun e w' => ∃ c0 c1 c2 c3 c4 c5, e = .returned (.tuple #[.agg #[c0, c1, c2, c3, c4, c5], .bool true]) ∧ Below w.heap.size w w' ∧ JRep w' (since w.heap.size w') x (.agg #[c0, c1, c2, c3, c4, c5])

theorem slNil {S : Nat → Prop} {Q : Nat → Nat → Prop} : SlOf S 0 Q (.slice none 0 0) := ⟨none, 0, rfl, Nat.zero_le _, .inl rfl⟩
theorem jrep_null (w : World) (S : Nat → Prop) : JRep w S .null (.agg #[.int .i64 0, .int .i64 0, .string ⟨#[]⟩, .slice none 0 0, .slice none 0 0, .slice none 0 0]) :=
  ⟨_, _, _, rfl, Nat.zero_le mostLen, by decide, by decide, slNil, slNil, slNil⟩
theorem jrep_bool (w : World) (S : Nat → Prop) (b : Bool) : JRep w S (.bool b) (.agg #[.int .i64 (if b then 2 else 1), .int .i64 0, .string ⟨#[]⟩, .slice none 0 0, .slice none 0 0, .slice none 0 0]) := by
  cases b <;> exact ⟨_, _, _, rfl, Nat.zero_le mostLen, by decide, by decide, slNil, slNil, slNil⟩
theorem jrep_num (w : World) (S : Nat → Prop) (h : Int) (h1 : -9223372036854775808 ≤ h) (h2 : h ≤ 9223372036854775807) : JRep w S (.num h) (.agg #[.int .i64 3, .int .i64 h, .string ⟨#[]⟩, .slice none 0 0, .slice none 0 0, .slice none 0 0]) :=
  ⟨_, _, _, rfl, Nat.zero_le mostLen, by decide, ⟨h1, h2⟩, slNil, slNil, slNil⟩
theorem jrep_str (w : World) (S : Nat → Prop) (s : ByteArray) (hs : s.size ≤ mostLen) : JRep w S (.str s) (.agg #[.int .i64 4, .int .i64 0, .string s, .slice none 0 0, .slice none 0 0, .slice none 0 0]) :=
  ⟨_, _, _, rfl, hs, by decide, by decide, slNil, slNil, slNil⟩

theorem fg_null : FromGoOk .null := by
  intro w S v hz hS hr
  obtain rfl : v = .nilIface := hr
  have HB := Lib.hid (below1 w (.cells #[.int .i64 0, .int .i64 0, .string ⟨#[]⟩, .slice none 0 0, .slice none 0 0, .slice none 0 0] 26))
  clear hz
  go_enter Tryz.func77, Tryz.ntmps77
  go_wp2_with fail
  exact bodyPost_ret (v := .tuple #[.agg #[.int .i64 0, .int .i64 0, .string ⟨#[]⟩, .slice none 0 0, .slice none 0 0, .slice none 0 0], .bool true]) (by simp [results, Tryz.results77, go_sem]) rfl ⟨_, _, _, _, _, _, rfl, HB.out, jrep_null _ _⟩
end Go.Gj

/-
  A result's cell of a struct: what it holds after calls, and after it has been set.
-/
namespace Go.Gj
open Go Go.RowKit Go.Proofs

theorem Box.f {w : World} {B : Nat} {k h : Int} {t : ByteArray} {s1 s2 s3 : Value} (hb : Box w B k h t s1 s2 s3) (o : Nat) : w.frozen? ⟨B, o, none⟩ = false := by
  unfold Box at hb; simp [World.frozen?, hb]

/-- The world with a record set, cell by cell. -/
def set6 (w : World) (b : Nat) (c0 c1 c2 c3 c4 c5 : Value) : World :=
  (((((w.setCell ⟨b, 0, none⟩ c0).setCell ⟨b, 1, none⟩ c1).setCell ⟨b, 2, none⟩ c2).setCell ⟨b, 3, none⟩ c3).setCell ⟨b, 4, none⟩ c4).setCell ⟨b, 5, none⟩ c5

theorem below_set6 {B b : Nat} {w : World} (h : B ≤ b) (c0 c1 c2 c3 c4 c5 : Value) : Below B w (set6 w b c0 c1 c2 c3 c4 c5) :=
  ((((((Below.refl B w).setCell (p := ⟨b, 0, none⟩) h c0).setCell (p := ⟨b, 1, none⟩) h c1).setCell (p := ⟨b, 2, none⟩) h c2).setCell (p := ⟨b, 3, none⟩) h c3).setCell (p := ⟨b, 4, none⟩) h c4).setCell (p := ⟨b, 5, none⟩) h c5
theorem set6_other {b : Nat} {w : World} (c0 c1 c2 c3 c4 c5 : Value) (k : Nat) (hk : k ≠ b) : (set6 w b c0 c1 c2 c3 c4 c5).heap[k]? = w.heap[k]? := by
  unfold set6
  rw [Below.heap_setCell _ _ _ _ hk, Below.heap_setCell _ _ _ _ hk, Below.heap_setCell _ _ _ _ hk, Below.heap_setCell _ _ _ _ hk, Below.heap_setCell _ _ _ _ hk, Below.heap_setCell _ _ _ _ hk]
theorem set6_size {b : Nat} {w : World} (c0 c1 c2 c3 c4 c5 : Value) : (set6 w b c0 c1 c2 c3 c4 c5).heap.size = w.heap.size := by simp [set6, World.setCell]
theorem set6_box {b : Nat} {w : World} {k h : Int} {t : ByteArray} {s1 s2 s3 : Value} (hb : Box w b k h t s1 s2 s3) {k' h' : Int} {t' : ByteArray} {r1 r2 r3 : Value} :
    Box (set6 w b (.int .i64 k') (.int .i64 h') (.string t') r1 r2 r3) b k' h' t' r1 r2 r3 := by
  unfold Box at hb ⊢
  simp [set6, World.setCell, Array.getElem?_modify, hb]
end Go.Gj

/-
  math.Trunc, impl.half.
-/
namespace Go.Gj
open Go Go.RowKit Go.Proofs

theorem trunc_entry (nm : String) (h : Int) (h0 : h ≠ 0) (hb : h.natAbs < 2 ^ 53) (w : World) : (Extern.MathFloor.toIntegral nm .zero #[.float .f64 (fl h 0)]).run Tryz.prog w = .ok (.float .f64 (fl h 0)) w := by
  have h1 : FloatKind.f64.decode (fl h 0) = .number (h < 0) (h.natAbs * 2 ^ (52 - h.natAbs.log2)) (0 - (52 - h.natAbs.log2 : Nat)) := read_fl h0 hb (by decide) (by decide)
  have h2 := write_trunc h0 hb
  rw [read_fl h0 hb (by decide) (by decide)] at h2
  have h3 : FloatKind.f64.encode ((Ieee.Datum.number (h < 0) (h.natAbs * 2 ^ (52 - h.natAbs.log2)) (0 - (52 - h.natAbs.log2 : Nat))).integral .zero) = fl h 0 := h2
  have key : ∀ d : Ieee.Datum, (∃ n m p, d = .number n m p) → FloatKind.f64.decode (fl h 0) = d → Extern.MathFloor.toIntegral nm .zero #[.float .f64 (fl h 0)] = pure (.float .f64 (FloatKind.f64.encode (d.integral .zero))) := by
    rintro d ⟨n, m, p, rfl⟩ hd
    change (match FloatKind.f64.decode (fl h 0) with
      | .nan s t => (_ : Sem Value)
      | d => (pure (Value.float .f64 (FloatKind.f64.encode (d.integral .zero))) : Sem Value)) = _
    rw [hd]
  rw [key _ ⟨_, _, _, rfl⟩ h1, h3]
  rfl

theorem trunc_call (h : Int) (h0 : h ≠ 0) (hb : h.natAbs < 2 ^ 53) (w : World) : (callFunc 194 #[.float .f64 (fl h 0)]).run Tryz.prog w = .ok (.value (.float .f64 (fl h 0))) w := by
  rw [run_callFunc_extern (fn := Tryz.f194) (by kernel_rfl) (by kernel_rfl) (by kernel_rfl) (by kernel_rfl) (e := Extern.MathFloor.toIntegral Tryz.f194.name .zero) (by kernel_rfl), trunc_entry _ h h0 hb]
  rfl

theorem Trunc_ok (h : Int) (h0 : h ≠ 0) (hb : h.natAbs < 2 ^ 53) (w : World) : Calls Tryz.prog 147 #[.float .f64 (fl h 0)] w fun e w' => e = .returned (.float .f64 (fl h 0)) ∧ w' = w := by
  have hc := trunc_call h h0 hb
  generalize fl h 0 = f at *
  clear h0 hb
  go_enter Tryz.func147, Tryz.ntmps147
  go_wp2_with fail
  go_ret
  exact ⟨rfl, rfl⟩

theorem half_ok (h : Int) (h0 : h ≠ 0) (hb : h.natAbs < 2 ^ 53) (w : World) : Calls Tryz.prog 99 #[.float .f64 (fl h 0)] w fun e w' =>
    e = .returned (.tuple #[.agg #[.int .i64 3, .int .i64 h, .string ⟨#[]⟩, .slice none 0 0, .slice none 0 0, .slice none 0 0], .bool true]) ∧ Below w.heap.size w w' := by
  have HB := Lib.hid (below1 w (.cells #[.int .i64 3, .int .i64 h, .string ⟨#[]⟩, .slice none 0 0, .slice none 0 0, .slice none 0 0] 26))
  have HC := Lib.hid (Trunc_ok h h0 hb)
  have o1 : FloatKind.f64.format.order (fl h 0) (fl h 0) = some .eq := order_self h0 hb
  have o2 : FloatKind.f64.format.order (fl h 0) 14109777632551763968 = some .gt := order_lo h0 hb
  have o3 : FloatKind.f64.format.order (fl h 0) 4886405595696988160 = some .lt := order_hi h0 hb
  have hcv : ∀ w, (convert 79 3 (.float .f64 (fl h 0))).run Tryz.prog w = .ok (.int .i64 h) w := fun w => run_convert_float_int w 79 3 .f64 .i64 _ h (by kernel_rfl) (by kernel_rfl) (by
    unfold floatToIntVal
    have e : (FloatKind.f64.decode (fl h 0)).toInt .zero = some h := toInt_fl h0 hb
    rw [e]
    have h1 : IntKind.i64.min = -9223372036854775808 := by decide
    have h2 : IntKind.i64.max = 9223372036854775807 := by decide
    simp only [h1, h2]
    rw [if_pos (by omega)])
  generalize fl h 0 = f at *
  clear h0 hb
  go_enter Tryz.func99, Tryz.ntmps99
  go_wp2_with (go_at_call 147; refine (HC.out _).mono ?_; rintro e w' ⟨rfl, rfl⟩)
  exact bodyPost_ret (v := .tuple #[.agg #[.int .i64 3, .int .i64 h, .string ⟨#[]⟩, .slice none 0 0, .slice none 0 0, .slice none 0 0], .bool true]) (by simp [results, Tryz.results99, go_sem]) rfl ⟨rfl, HB.out⟩

set_option maxRecDepth 100000 in
theorem fg_bool (b : Bool) : FromGoOk (.bool b) := by
  intro w S v hz hS hr
  obtain rfl : v = .iface 4 (.bool b) := hr
  have HB := Lib.hid (below1 w (.cells #[.int .i64 (if b then 2 else 1), .int .i64 0, .string ⟨#[]⟩, .slice none 0 0, .slice none 0 0, .slice none 0 0] 26))
  clear hz
  cases b
  · go_enter Tryz.func77, Tryz.ntmps77
    go_wp2_with fail
    exact bodyPost_ret (v := .tuple #[.agg #[.int .i64 1, .int .i64 0, .string ⟨#[]⟩, .slice none 0 0, .slice none 0 0, .slice none 0 0], .bool true]) (by simp [results, Tryz.results77, go_sem]) rfl ⟨_, _, _, _, _, _, rfl, HB.out, jrep_bool _ _ false⟩
  · go_enter Tryz.func77, Tryz.ntmps77
    go_wp2_with fail
    exact bodyPost_ret (v := .tuple #[.agg #[.int .i64 2, .int .i64 0, .string ⟨#[]⟩, .slice none 0 0, .slice none 0 0, .slice none 0 0], .bool true]) (by simp [results, Tryz.results77, go_sem]) rfl ⟨_, _, _, _, _, _, rfl, HB.out, jrep_bool _ _ true⟩

set_option maxRecDepth 100000 in
theorem fg_str (s : ByteArray) : FromGoOk (.str s) := by
  intro w S v hz hS hr
  obtain ⟨rfl, hs⟩ := hr
  have HB := Lib.hid (below1 w (.cells #[.int .i64 4, .int .i64 0, .string s, .slice none 0 0, .slice none 0 0, .slice none 0 0] 26))
  have HS := Lib.hid hs
  clear hz hs
  go_enter Tryz.func77, Tryz.ntmps77
  go_wp2_with fail
  exact bodyPost_ret (v := .tuple #[.agg #[.int .i64 4, .int .i64 0, .string s, .slice none 0 0, .slice none 0 0, .slice none 0 0], .bool true]) (by simp [results, Tryz.results77, go_sem]) rfl ⟨_, _, _, _, _, _, rfl, HB.out, jrep_str _ _ s HS.out⟩

set_option maxRecDepth 100000 in
theorem fg_num (h : Int) : FromGoOk (.num h) := by
  intro w S v hz hS hr
  rcases hr with ⟨he, h1, h2, rfl⟩ | ⟨ho, hb, rfl⟩
  · obtain ⟨k, rfl⟩ : ∃ k, h = 2 * k := ⟨h / 2, by omega⟩
    have e1 : 2 * k / 2 = k := by omega
    rw [e1]
    have HB := Lib.hid (below1 w (.cells #[.int .i64 3, .int .i64 (2 * k), .string ⟨#[]⟩, .slice none 0 0, .slice none 0 0, .slice none 0 0] 26))
    have HJ := fun w' S' => jrep_num w' S' (2 * k) (by omega) (by omega)
    have HJ := Lib.hid HJ
    clear hz he e1
    have hk1 : -2305843009213693952 ≤ k := by omega
    have hk2 : k ≤ 2305843009213693952 := by omega
    have hk3 : (-4611686018427387904 ≤ k) = True := by simp; omega
    have hk4 : (k ≤ 4611686018427387903) = True := by simp; omega
    have hk5 : decide (k ≤ 4611686018427387903) = true := by simp; omega
    clear h1 h2
    go_enter Tryz.func77, Tryz.ntmps77
    go_wp2_with fail
    exact bodyPost_ret (v := .tuple #[.agg #[.int .i64 3, .int .i64 (2 * k), .string ⟨#[]⟩, .slice none 0 0, .slice none 0 0, .slice none 0 0], .bool true]) (by simp [results, Tryz.results77, go_sem]) rfl ⟨_, _, _, _, _, _, rfl, HB.out, HJ.out _ _⟩
  · have h0 : h ≠ 0 := by omega
    have HB := Lib.hid (below1 w (.cells #[.int .i64 3, .int .i64 h, .string ⟨#[]⟩, .slice none 0 0, .slice none 0 0, .slice none 0 0] 26))
    have HJ := fun w' S' => jrep_num w' S' h (by omega) (by omega)
    have HJ := Lib.hid HJ
    have HC := Lib.hid (half_ok h h0 hb)
    have hq : ∀ t w, (binOp .mul t (.float .f64 4611686018427387904) (.float .f64 (fl h (-1)))).run Tryz.prog w = .ok (.float .f64 (fl h 0)) w := fun t w => run_float_arith w .mul t .f64 _ _ _ (mul_two h0 hb)
    clear hz ho hb h0
    generalize fl h 0 = f0 at *
    generalize fl h (-1) = f1 at *
    have hB0 := Box.new w 0 0 ⟨#[]⟩ (.slice none 0 0) (.slice none 0 0) (.slice none 0 0)
    have HB0 := Lib.hid hB0
    clear hB0
    go_enter Tryz.func77, Tryz.ntmps77
    go_upto_region 15 with fail
    go_wp2_with (go_at_call 99; refine (HC.out _).mono ?_; rintro e w' ⟨rfl, hb'⟩; have hbx : Box w' w.heap.size 0 0 ⟨#[]⟩ (.slice none 0 0) (.slice none 0 0) (.slice none 0 0) := (hb'.block _ (by rw [size_alloc]; omega)).trans HB0.out; obtain ⟨z0, z1, z2, z3, z4, z5⟩ := hbx.c; have zf := hbx.f; have HBX := Lib.hid hbx; have HBB := Lib.hid hb'; clear hbx hb')
    have HZ := Lib.hid (set6_box HBX.out (k' := 3) (h' := h) (t' := ⟨#[]⟩) (r1 := .slice none 0 0) (r2 := .slice none 0 0) (r3 := .slice none 0 0)).c
    have HB2 := Lib.hid (HBB.out.mono (below1 w _).size)
    refine bodyPost_ret (w := set6 w' w.heap.size (.int .i64 3) (.int .i64 h) (.string ⟨#[]⟩) (.slice none 0 0) (.slice none 0 0) (.slice none 0 0)) (v := .tuple #[.agg #[.int .i64 3, .int .i64 h, .string ⟨#[]⟩, .slice none 0 0, .slice none 0 0, .slice none 0 0], .bool true]) ?_ rfl ?_
    · obtain ⟨y0, y1, y2, y3, y4, y5⟩ := HZ.out
      simp [results, Tryz.results77, go_sem, y0, y1, y2, y3, y4, y5]
    · exact ⟨_, _, _, _, _, _, rfl, ((below1 w _).trans HB2.out).trans (below_set6 (Nat.le_refl _) _ _ _ _ _ _), HJ.out _ _⟩
end Go.Gj
