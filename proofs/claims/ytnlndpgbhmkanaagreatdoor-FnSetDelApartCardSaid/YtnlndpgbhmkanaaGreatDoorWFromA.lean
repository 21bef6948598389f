/-
  impl.fromGo: values of any become records, in new memory.
-/
import Derived.Test.YtnlndpgbhmkanaaGreatDoorWToGo3
import Derived.Test.YtnlndpgbhmkanaaGreatDoorWFitB
import Derived.Test.YtnlndpgbhmkanaaGreatDoorErrL
namespace Go.Gj
open Go Go.RowKit Go.Proofs

mutual
/-- Sized: what fromGo takes. -/
def J.sz : J → Prop
  | .null => True
  | .bool _ => True
  | .num _ => True
  | .str _ => True
  | .arr l => l.length ≤ lim ∧ J.szs l
  | .obj ks vs => ks.length = vs.length ∧ ks.length ≤ lim ∧ rises ks ∧ J.szs vs
def J.szs : List J → Prop
  | [] => True
  | x :: xs => x.sz ∧ J.szs xs
end
theorem szs_iff (l : List J) : J.szs l ↔ ∀ x ∈ l, x.sz := by
  induction l with
  | nil => simp [J.szs]
  | cons x xs ih => simp [J.szs, ih]

def FromGoOk (x : J) : Prop := ∀ (w : World) (S : Nat → Prop) (v : Value), x.sz → (∀ b, S b → b < w.heap.size) → ARep w S x v →
  Calls Tryz.prog 77 #[v] w fun e w' => ∃ c0 c1 c2 c3 c4 c5, e = .returned (.tuple #[.agg #[c0, c1, c2, c3, c4, c5], .bool true]) ∧ Below w.heap.size w w' ∧ JRep w' (since w.heap.size w') x (.agg #[c0, c1, c2, c3, c4, c5])

theorem slNil {S : Nat → Prop} {Q : Nat → Nat → Prop} : SlOf S 0 Q (.slice none 0 0) := ⟨none, 0, rfl, Nat.zero_le _, .inl rfl⟩
theorem jrep_null (w : World) (S : Nat → Prop) : JRep w S .null (.agg #[.int .i64 0, .int .i64 0, .string ⟨#[]⟩, .slice none 0 0, .slice none 0 0, .slice none 0 0]) :=
  ⟨_, _, _, rfl, Nat.zero_le mostLen, by decide, by decide, slNil, slNil, slNil⟩
theorem jrep_bool (w : World) (S : Nat → Prop) (b : Bool) : JRep w S (.bool b) (.agg #[.int .i64 (if b then 2 else 1), .int .i64 0, .string ⟨#[]⟩, .slice none 0 0, .slice none 0 0, .slice none 0 0]) := by
  cases b <;> exact ⟨_, _, _, rfl, Nat.zero_le mostLen, by decide, by decide, slNil, slNil, slNil⟩
theorem jrep_num (w : World) (S : Nat → Prop) (h : Int) (h1 : -9223372036854775808 ≤ h) (h2 : h ≤ 9223372036854775807) : JRep w S (.num h) (.agg #[.int .i64 3, .int .i64 h, .string ⟨#[]⟩, .slice none 0 0, .slice none 0 0, .slice none 0 0]) :=
  ⟨_, _, _, rfl, Nat.zero_le mostLen, by decide, ⟨h1, h2⟩, slNil, slNil, slNil⟩
theorem jrep_str (w : World) (S : Nat → Prop) (s : ByteArray) (hs : s.size ≤ mostLen) : JRep w S (.str s) (.agg #[.int .i64 4, .int .i64 0, .string s, .slice none 0 0, .slice none 0 0, .slice none 0 0]) :=
  ⟨_, _, _, rfl, hs, by decide, by decide, slNil, slNil, slNil⟩

theorem fg_null : FromGoOk .null := by
  intro w S v hz hS hr
  obtain rfl : v = .nilIface := hr
  have HB := Lib.hid (below1 w (.cells #[.int .i64 0, .int .i64 0, .string ⟨#[]⟩, .slice none 0 0, .slice none 0 0, .slice none 0 0] 26))
  clear hz
  go_enter Tryz.func77, Tryz.ntmps77
  go_wp2_with fail
  exact bodyPost_ret (v := .tuple #[.agg #[.int .i64 0, .int .i64 0, .string ⟨#[]⟩, .slice none 0 0, .slice none 0 0, .slice none 0 0], .bool true]) (by simp [results, Tryz.results77, go_sem]) rfl ⟨_, _, _, _, _, _, rfl, HB.out, jrep_null _ _⟩
end Go.Gj
