/-
  The five, down to impl's doors.
-/
import Derived.Test.YtnlndpgbhmkanaaGreatDoorWSb4
import Derived.Test.YtnlndpgbhmkanaaGreatDoorWSb6
import Derived.Test.YtnlndpgbhmkanaaGreatDoorWDoorB
import Derived.Test.YtnlndpgbhmkanaaGreatDoorWRk4
namespace Go.Gj
set_option linter.unusedSimpArgs false
set_option linter.unusedVariables false
set_option linter.unnecessarySimpa false
open Go Go.RowKit Go.Proofs

set_option maxRecDepth 100000 in
theorem ZzGroupBy_ok (l ks : List J) (hokl : ∀ x ∈ l, x.ok) (hlk : ks.length = l.length) (hlen : l.length ≤ lim) (hok : ∀ k ∈ ks, k.ok) (w : World) (S : Nat → Prop) (hS : ∀ b, S b → b < w.heap.size) (gl gg : Value) (h1 : ARep w S (.arr l) gl) (h2 : ARep w S (.arr ks) gg) :
    Calls Tryz.prog 55 #[gl, gg] w (AnyGives w (some (.arr ((grpN (ordL l ks) (ordL ks ks) l.length).map .arr)))) := by
  have H := Lib.hid (funcGroupBy_ok l ks hokl hlk hlen hok w S hS gl gg h1 h2)
  clear h1 h2 hS hok hokl hlk hlen
  generalize (.arr ((grpN (ordL l ks) (ordL ks ks) l.length).map .arr) : J) = rr at H ⊢
  go_enter Tryz.func55, Tryz.ntmps55
  go_wp2_with (go_at_call 81; refine H.out.mono ?_; rintro e w2 ⟨g, rfl, hb, ha⟩; have HB := Lib.hid (And.intro hb ha); clear hb ha)
  exact bodyPost_ret (v := g) (by simp [results, Tryz.results55, go_sem]) rfl ⟨g, rfl, HB.out.1, HB.out.2⟩

/-- What is asked of two lists, so that the five answer. -/
structure Pair (l ks : List J) : Prop where
  okl : ∀ x ∈ l, x.ok
  ok : ∀ k ∈ ks, k.ok
  len : ks.length = l.length
  lim : l.length ≤ lim

theorem Pair.of {l ks : List J} (h1 : (J.arr l).ok) (h2 : (J.arr ks).ok) (h : ks.length = l.length) : Pair l ks := ⟨(oks_iff _).1 h1.2, (oks_iff _).1 h2.2, h, h1.1⟩
theorem Pair.arr {l ks : List J} (h : Pair l ks) : (J.arr l).ok := ⟨h.lim, (oks_iff _).2 h.okl⟩
theorem Pair.arrk {l ks : List J} (h : Pair l ks) : (J.arr ks).ok := ⟨by rw [h.len]; exact h.lim, (oks_iff _).2 h.ok⟩

/-- What the five answer. -/
def byJ (l ks : List J) : Nat → J
  | 0 => .arr (ordL l ks)
  | 1 => .arr ((grpN (ordL l ks) (ordL ks ks) l.length).map .arr)
  | 2 => .arr (onceN (ordL l ks) (ordL ks ks) l.length)
  | 3 => if l.length = 0 then .null else l.getD (mmN ks true l.length) .null
  | _ => if l.length = 0 then .null else l.getD (mmN ks false l.length) .null

theorem SortBy_is {l ks : List J} (H : Pair l ks) (w : World) (S : Nat → Prop) (hS : ∀ b, S b → b < w.heap.size) (va vb : Value) (ha : JRep w S (.arr l) va) (hb : JRep w S (.arr ks) vb) : Calls Tryz.prog 20 #[va, vb] w (AnsRes w (some (byJ l ks 0))) :=
  SortBy_door _ _ H.arr H.arrk _ (fun w1 g1 g2 h1 h2 => ZzSortBy_ok l ks H.okl H.len H.lim H.ok w1 _ (fun _ h => h) g1 g2 h1 h2) w S hS va vb ha hb
theorem GroupBy_is {l ks : List J} (H : Pair l ks) (w : World) (S : Nat → Prop) (hS : ∀ b, S b → b < w.heap.size) (va vb : Value) (ha : JRep w S (.arr l) va) (hb : JRep w S (.arr ks) vb) : Calls Tryz.prog 21 #[va, vb] w (AnsRes w (some (byJ l ks 1))) :=
  GroupBy_door _ _ H.arr H.arrk _ (fun w1 g1 g2 h1 h2 => ZzGroupBy_ok l ks H.okl H.len H.lim H.ok w1 _ (fun _ h => h) g1 g2 h1 h2) w S hS va vb ha hb
theorem UniqueBy_is {l ks : List J} (H : Pair l ks) (w : World) (S : Nat → Prop) (hS : ∀ b, S b → b < w.heap.size) (va vb : Value) (ha : JRep w S (.arr l) va) (hb : JRep w S (.arr ks) vb) : Calls Tryz.prog 22 #[va, vb] w (AnsRes w (some (byJ l ks 2))) :=
  UniqueBy_door _ _ H.arr H.arrk _ (fun w1 g1 g2 h1 h2 => ZzUniqueBy_ok l ks H.okl H.len H.lim H.ok w1 _ (fun _ h => h) g1 g2 h1 h2) w S hS va vb ha hb
theorem MinBy_is {l ks : List J} (H : Pair l ks) (w : World) (S : Nat → Prop) (hS : ∀ b, S b → b < w.heap.size) (va vb : Value) (ha : JRep w S (.arr l) va) (hb : JRep w S (.arr ks) vb) : Calls Tryz.prog 23 #[va, vb] w (AnsRes w (some (byJ l ks 3))) :=
  MinBy_door _ _ H.arr H.arrk _ (fun w1 g1 g2 h1 h2 => ZzMinBy_ok l ks H.okl H.len H.lim H.ok w1 _ (fun _ h => h) g1 g2 h1 h2) w S hS va vb ha hb
theorem MaxBy_is {l ks : List J} (H : Pair l ks) (w : World) (S : Nat → Prop) (hS : ∀ b, S b → b < w.heap.size) (va vb : Value) (ha : JRep w S (.arr l) va) (hb : JRep w S (.arr ks) vb) : Calls Tryz.prog 24 #[va, vb] w (AnsRes w (some (byJ l ks 4))) :=
  MaxBy_door _ _ H.arr H.arrk _ (fun w1 g1 g2 h1 h2 => ZzMaxBy_ok l ks H.okl H.len H.lim H.ok w1 _ (fun _ h => h) g1 g2 h1 h2) w S hS va vb ha hb
end Go.Gj

/-
  Small functions around spec.By: spec.Array 19, laws.fit 53, laws.told 26.
-/
namespace Go.Gj
set_option linter.unusedSimpArgs false
set_option linter.unusedVariables false
set_option linter.unnecessarySimpa false
open Go Go.RowKit Go.Proofs

theorem jrep_arr {w : World} {S : Nat → Prop} {l : List J} {v : Value} (h : JSl w S l v) : JRep w S (.arr l) (.agg #[.int .i64 5, .int .i64 0, .string ⟨#[]⟩, v, .slice none 0 0, .slice none 0 0]) := by
  have h' : SlOf S (J.toVs l).length (fun b o => VCells w S b (J.toVs l) o) v := by rw [toVs_length]; exact h
  exact ⟨v, .slice none 0 0, .slice none 0 0, rfl, by decide, by decide, by decide, h', ⟨none, 0, rfl, by decide, .inl rfl⟩, ⟨none, 0, rfl, by decide, .inl rfl⟩⟩

set_option maxRecDepth 100000 in
theorem arr19_ok (a : Option Addr) (n c : Nat) (w : World) :
    Calls Tryz.prog 19 #[.slice a n c] w fun e w' => e = .returned (.agg #[.int .i64 5, .int .i64 0, .string ⟨#[]⟩, .slice a n c, .slice none 0 0, .slice none 0 0]) ∧ Below w.heap.size w w' := by
  have HB := Lib.hid (below1 w (.cells #[.int .i64 5, .int .i64 0, .string ⟨#[]⟩, .slice a n c, .slice none 0 0, .slice none 0 0] 26))
  go_enter Tryz.func19, Tryz.ntmps19
  go_wp2
  exact bodyPost_ret (v := .agg #[.int .i64 5, .int .i64 0, .string ⟨#[]⟩, .slice a n c, .slice none 0 0, .slice none 0 0]) (by simp [results, Tryz.results19, go_sem]) rfl ⟨rfl, HB.out⟩

/-- laws.told, where the manual is silent. -/
theorem told_silent (en : Int) (w : World) (c0 c1 c2 c3 c4 c5 d0 d1 d2 d3 d4 d5 : Value) (h1 : ∀ u ∈ [c0, c1, c2, c3, c4, c5], u.oneCell' = true) (h2 : ∀ u ∈ [d0, d1, d2, d3, d4, d5], u.oneCell' = true) :
    Calls Tryz.prog 26 #[.agg #[c0, c1, c2, c3, c4, c5, .int .i64 en], .agg #[d0, d1, d2, d3, d4, d5], .int .i64 2] w fun e w' => e = .returned (.bool true) ∧ Below w.heap.size w w' := by
  have HB := Lib.hid (below2 w (.cells #[c0, c1, c2, c3, c4, c5, .int .i64 en] 35) (.cells #[d0, d1, d2, d3, d4, d5] 26))
  go_enter Tryz.func26, Tryz.ntmps26
  go_wp2_with fail
  go_ret
  exact ⟨rfl, HB.out⟩
end Go.Gj
