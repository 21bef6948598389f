/-
  The small functions of the laws: zzFits1, zzFits2, fits, array, straight, told, given; spec.Fit, spec.Same.
-/
import Derived.Test.YtnlndpgbhmkanaaGreatDoorWCmp
import Derived.Test.YtnlndpgbhmkanaaGreatDoorWFitB
namespace Go.Gj
open Go Go.RowKit Go.Proofs

theorem value_all (n : Nat) : ∀ v : V, SizeOf.sizeOf v < n → ValOk v := by
  induction n with
  | zero => intro v h; omega
  | succ n ih =>
    rintro ⟨k, h, t, l, ks, vs⟩ hn
    refine value_step k h t l ks vs (fun x hx => ih x ?_) (fun x hx => ih x ?_)
    · have := List.sizeOf_lt_of_mem hx; simp at hn; omega
    · have := List.sizeOf_lt_of_mem hx; simp at hn; omega
theorem value_ok (v : V) : ValOk v := value_all _ v (Nat.lt_succ_self _)

theorem Tabs.size {w : World} (h : Tabs w) : 2 ≤ w.heap.size := h.lt
theorem LK.new (w : World) (p q : Int) (bad : Bool) : LK (w.alloc (.cells #[.int .i64 p, .int .i64 q, .bool bad] 76)) w.heap.size p q bad := by
  unfold LK; rw [show (w.alloc (.cells #[.int .i64 p, .int .i64 q, .bool bad] 76)).heap = w.heap.push (.cells #[.int .i64 p, .int .i64 q, .bool bad] 76) from rfl]; simp

theorem zero_size : ByteArray.empty.size = 0 := rfl

/-- spec.Fit. -/
theorem Fit_fit (v : V) (w : World) (S : Nat → Prop) (val : Value) (hT : Tabs w) (hS : ∀ b, S b → b < w.heap.size) (h : VRep w S v val) :
    Calls Tryz.prog 47 #[val] w fun e w' => ∃ r, e = .returned (.bool r) ∧ Below w.heap.size w w' ∧ (r = true → ∃ x : J, x.fit ∧ v = x.toV) := by
  obtain ⟨k, h0, t, l, ks, vs⟩ := v
  have h' := h
  obtain ⟨s1, s2, s3, rfl, ht, _, _, _, _, _⟩ := h'
  have hb1 := below1 w (.cells #[.int .i64 k, .int .i64 h0, .string t, s1, s2, s3] 26)
  have hB := Box.new w k h0 t s1 s2 s3
  have H := Lib.hid h
  have HB := Lib.hid hB
  have HB1 := Lib.hid hb1
  have HT := Lib.hid hT
  clear h hB hb1 hT
  go_enter Tryz.func47, Tryz.ntmps47
  go_wp2_with fail
  have hl : LK ((w.alloc (.cells #[.int .i64 k, .int .i64 h0, .string t, s1, s2, s3] 26)).alloc (.cells #[.int .i64 0, .int .i64 0, .bool false] 76)) (w.heap.size + 1) 0 0 false := by
    have := LK.new (w.alloc (.cells #[.int .i64 k, .int .i64 h0, .string t, s1, s2, s3] 26)) 0 0 false
    rwa [World.size_alloc] at this
  have hb2 := below2 w (.cells #[.int .i64 k, .int .i64 h0, .string t, s1, s2, s3] 26) (.cells #[.int .i64 0, .int .i64 0, .bool false] 76)
  refine (value_ok (.mk k h0 t l ks vs) _ S (w.heap.size + 1) 0 0 0 _ (HT.out.below hb2) (by have := HT.out.size; omega) hl (VRep.keep (.of_below hb2 hS) (fun _ h => h) _ _ H.out) (fun b hb => ⟨by have := hS b hb; simp; omega, by have := hS b hb; omega⟩) (by omega) (by omega) (by omega) (by omega) (by omega) (by omega)).mono ?_
  rintro e w' ⟨rfl, hx, p', q', bad', hl', hc'⟩
  have c2 := hl'.c2
  have HX := Lib.hid (hb2.trans (hx.below (by simp; omega) (by omega)))
  have HC := Lib.hid hc'
  clear hl hb2 hx hl' hc'
  go_wp2_with fail
  go_ret
  refine ⟨!bad', rfl, HX.out, fun h => ?_⟩
  exact (HC.out (by simpa using h)).2.2.2.2

theorem Fit_ok (v : V) (w : World) (S : Nat → Prop) (val : Value) (hT : Tabs w) (hS : ∀ b, S b → b < w.heap.size) (h : VRep w S v val) :
    Calls Tryz.prog 47 #[val] w fun e w' => ∃ r, e = .returned (.bool r) ∧ Below w.heap.size w w' ∧ (r = true → ∃ x : J, x.ok ∧ v = x.toV) := by
  refine (Fit_fit v w S val hT hS h).mono ?_
  rintro e w' ⟨r, rfl, hb, hr⟩
  exact ⟨r, rfl, hb, fun e => by obtain ⟨x, hx, hv⟩ := hr e; exact ⟨x, fit_ok hx, hv⟩⟩

theorem array_ok (sl : Value) (a : Option Addr) (n c : Nat) (w : World) (hs : sl = .slice a n c) :
    Calls Tryz.prog 12 #[sl] w fun e w' => e = .returned (.agg #[.int .i64 5, .int .i64 0, .string ⟨#[]⟩, sl, .slice none 0 0, .slice none 0 0]) ∧ Below w.heap.size w w' := by
  subst hs
  have HB := Lib.hid (below1 w (.cells #[.int .i64 5, .int .i64 0, .string ⟨#[]⟩, .slice a n c, .slice none 0 0, .slice none 0 0] 26))
  go_enter Tryz.func12, Tryz.ntmps12
  go_wp2
  exact bodyPost_ret (v := .agg #[.int .i64 5, .int .i64 0, .string ⟨#[]⟩, .slice a n c, .slice none 0 0, .slice none 0 0]) (by simp [results, Tryz.results12, go_sem]) rfl ⟨rfl, HB.out⟩

/-- spec.Same. -/
theorem Same_ok (x y : J) (w : World) (S : Nat → Prop) (va vb : Value) (hx : x.ok) (hy : y.ok) (hS : ∀ b, S b → b < w.heap.size) (ha : JRep w S x va) (hb : JRep w S y vb) :
    Calls Tryz.prog 61 #[va, vb] w fun e w' => e = .returned (.bool (cmpJ x y == 0)) ∧ Below w.heap.size w w' := by
  obtain ⟨s1, s2, s3, rfl, _⟩ := ha.parts
  obtain ⟨r1, r2, r3, rfl, _⟩ := hb.parts
  have HB := Lib.hid (below2 w (.cells #[.int .i64 x.kind, .int .i64 x.half, .string x.text, s1, s2, s3] 26) (.cells #[.int .i64 y.kind, .int .i64 y.half, .string y.text, r1, r2, r3] 26))
  have HC := Lib.hid (Cmp_ok x y _ S _ _ hx hy (lt_below HB.out hS) (ha.below HB.out hS) (hb.below HB.out hS))
  clear ha hb
  go_enter Tryz.func61, Tryz.ntmps61
  go_wp2_with (go_at_call 86; refine HC.out.mono ?_; rintro e w' ⟨rfl, hb'⟩)
  go_ret
  exact ⟨rfl, HB.out.trans (hb'.mono HB.out.size)⟩

/-- A record impl.Res. -/
def ResV (c0 c1 c2 c3 c4 c5 : Value) (en : Int) : Value := .agg #[c0, c1, c2, c3, c4, c5, .int .i64 en]

/-- laws.told: how 0: fine; 1: raises; 2: silent. -/
theorem told_fine (x y : J) (en : Int) (w : World) (S : Nat → Prop) (c0 c1 c2 c3 c4 c5 vb : Value) (hx : x.ok) (hy : y.ok) (hS : ∀ b, S b → b < w.heap.size) (ha : JRep w S x (.agg #[c0, c1, c2, c3, c4, c5])) (hb : JRep w S y vb) (he : -10 ≤ en ∧ en ≤ 10) :
    Calls Tryz.prog 26 #[.agg #[c0, c1, c2, c3, c4, c5, .int .i64 en], vb, .int .i64 0] w fun e w' => e = .returned (.bool (en == 0 && cmpJ x y == 0)) ∧ Below w.heap.size w w' := by
  obtain ⟨r1, r2, r3, rfl, _⟩ := hb.parts
  have HB := Lib.hid (below2 w (.cells #[c0, c1, c2, c3, c4, c5, .int .i64 en] 35) (.cells #[.int .i64 y.kind, .int .i64 y.half, .string y.text, r1, r2, r3] 26))
  have HC := Lib.hid (Same_ok x y _ S _ _ hx hy (lt_below HB.out hS) (ha.below HB.out hS) (hb.below HB.out hS))
  clear ha hb
  by_cases h0 : en = 0
  · subst h0
    go_enter Tryz.func26, Tryz.ntmps26
    go_wp2_with (go_at_call 61; refine HC.out.mono ?_; rintro e w' ⟨rfl, hb'⟩)
    go_ret
    exact ⟨by simp, HB.out.trans (hb'.mono HB.out.size)⟩
  · have hb0 : (en == 0) = false := by simp [h0]
    clear h0
    go_enter Tryz.func26, Tryz.ntmps26
    go_wp2_with (go_at_call 61; refine HC.out.mono ?_; rintro e w' ⟨rfl, hb'⟩)
    go_ret
    exact ⟨by simp [hb0], HB.out⟩

theorem given_ok (x y : J) (en : Int) (w : World) (S : Nat → Prop) (c0 c1 c2 c3 c4 c5 vb : Value) (hx : x.ok) (hy : y.ok) (hS : ∀ b, S b → b < w.heap.size) (ha : JRep w S x (.agg #[c0, c1, c2, c3, c4, c5])) (hb : JRep w S y vb) (he : -10 ≤ en ∧ en ≤ 10) :
    Calls Tryz.prog 17 #[.agg #[c0, c1, c2, c3, c4, c5, .int .i64 en], vb] w fun e w' => e = .returned (.bool (en == 0 && cmpJ x y == 0)) ∧ Below w.heap.size w w' := by
  obtain ⟨r1, r2, r3, rfl, _⟩ := hb.parts
  have HB := Lib.hid (below2 w (.cells #[c0, c1, c2, c3, c4, c5, .int .i64 en] 35) (.cells #[.int .i64 y.kind, .int .i64 y.half, .string y.text, r1, r2, r3] 26))
  have HC := Lib.hid (told_fine x y en _ S _ _ _ _ _ _ _ hx hy (lt_below HB.out hS) (ha.below HB.out hS) (hb.below HB.out hS) he)
  clear ha hb
  go_enter Tryz.func17, Tryz.ntmps17
  go_wp2_with (go_at_call 26; refine HC.out.mono ?_; rintro e w' ⟨rfl, hb'⟩)
  go_ret
  exact ⟨rfl, HB.out.trans (hb'.mono HB.out.size)⟩
end Go.Gj
