/-
  FnHasNot: plain law.
-/
import Derived.Test.YtnlndpgbhmkanaaGreatDoorPlS
import Derived.Test.YtnlndpgbhmkanaaGreatDoorWHas
import Derived.Test.YtnlndpgbhmkanaaGreatDoorWAns
import Derived.Test.YtnlndpgbhmkanaaGreatDoorWSpecE
namespace Go.Gj

theorem hasAt_strange {x y : J} (h : hasAt x y) : strange x y = false := by
  cases x <;> cases y <;> simp [hasAt] at h <;> rfl

theorem setJ_one {x y : J} (hk : keyOk y) (ht : hasAt x y) (hx : x.okn 2000) (hy : y.okn 2000) : ∃ z, setJ x [y] .null = some z ∧ z.okn 2001 ∧ hasAt z y ∧ hasJ z y = true := by
  have key : ∀ z, setJ x [y] .null = some z → z.okn 2001 := fun z hz => setJ_okn (n := 2000) (Nat.le_refl _) [y] x .null z (fun k hk' => by obtain rfl : k = y := (by simpa using hk'); exact ⟨hk, hy⟩) hx trivial hz
  cases x <;> cases y <;> simp only [hasAt] at ht
  · rename_i l h
    refine ⟨_, rfl, key _ rfl, trivial, ?_⟩
    simp only [hasJ, setAt_length, decide_eq_true_eq]
    omega
  · rename_i ks vs s
    refine ⟨_, rfl, key _ rfl, trivial, ?_⟩
    exact (any_mem _ _).2 ((putK_keys ks vs s .null hx.1 s).2 (.inr rfl))

theorem idxJ_hasnot {x y : J} (ht : hasAt x y) (h : hasJ x y = false) : idxJ x y = some .null := by
  cases x <;> cases y <;> simp only [hasAt] at ht
  · rename_i l m
    simp only [hasJ, decide_eq_false_iff_not] at h
    simp only [idxJ]
    rw [List.getD_eq_getElem?_getD, List.getElem?_eq_none (by omega)]
    rfl
  · rename_i ks vs s
    have hn : s ∉ ks := fun hm => by
      have := (any_mem ks s).2 hm
      simp only [hasJ] at h
      rw [h] at this; cases this
    simp only [idxJ]
    rw [getK_none ks vs s hn]
end Go.Gj

/-
  The laws' yes and no: is the answer that truth value?
-/
namespace Go.Gj
set_option linter.unusedSimpArgs false
set_option linter.unusedVariables false
set_option linter.unnecessarySimpa false
open Go Go.RowKit Go.Proofs

theorem jrep_tf (y : Bool) (w : World) (S : Nat → Prop) : JRep w S (.bool y) (.agg #[.int .i64 (if y then 2 else 1), .int .i64 0, .string ⟨#[]⟩, .slice none 0 0, .slice none 0 0, .slice none 0 0]) := by
  cases y
  · exact ⟨_, _, _, rfl, Nat.zero_le mostLen, by decide, by decide, slNil, slNil, slNil⟩
  · exact ⟨_, _, _, rfl, Nat.zero_le mostLen, by decide, by decide, slNil, slNil, slNil⟩

set_option maxHeartbeats 1000000 in
set_option maxRecDepth 100000 in
theorem yes_ok (x : J) (en : Int) (w : World) (S : Nat → Prop) (c0 c1 c2 c3 c4 c5 : Value) (hx : x.ok) (hS : ∀ b, S b → b < w.heap.size) (ha : JRep w S x (.agg #[c0, c1, c2, c3, c4, c5])) (he : -10 ≤ en ∧ en ≤ 10) :
    Calls Tryz.prog 32 #[.agg #[c0, c1, c2, c3, c4, c5, .int .i64 en]] w fun e w' => e = .returned (.bool (en == 0 && cmpJ x (.bool true) == 0)) ∧ Below w.heap.size w w' := by
  obtain ⟨b1, d1, b2, d2, b3, d3, rfl, rfl, rfl, rfl, rfl, rfl⟩ := ha.cells6
  have hB := below1 w (.cells #[.int .i64 x.kind, .int .i64 x.half, .string x.text, .slice b1 x.list.length d1, .slice b2 x.keys.length d2, .slice b3 x.vals.length d3, .int .i64 en] 35)
  have HB := Lib.hid hB
  have HC := Lib.hid (fun w' (hb : Below w.heap.size w w') => given_ok x (.bool true) en w' S _ _ _ _ _ _ _ hx trivial (lt_below hb hS) (ha.below hb hS) (jrep_tf true w' S) he)
  have HT := Lib.hid (fun w' => specBool_ok true w')
  have hR := Box7.new w x.kind x.half x.text (.slice b1 x.list.length d1) (.slice b2 x.keys.length d2) (.slice b3 x.vals.length d3) en
  have CELLS := Lib.hid (fun w1 (h1 : Below (w.alloc (.cells #[.int .i64 x.kind, .int .i64 x.half, .string x.text, .slice b1 x.list.length d1, .slice b2 x.keys.length d2, .slice b3 x.vals.length d3, .int .i64 en] 35)).heap.size (w.alloc (.cells #[.int .i64 x.kind, .int .i64 x.half, .string x.text, .slice b1 x.list.length d1, .slice b2 x.keys.length d2, .slice b3 x.vals.length d3, .int .i64 en] 35)) w1) => Box7.c ((h1.block w.heap.size (by rw [size_alloc]; omega)).trans hR))
  have HQ0 := Lib.hid (Below.refl (w.alloc (.cells #[.int .i64 x.kind, .int .i64 x.half, .string x.text, .slice b1 x.list.length d1, .slice b2 x.keys.length d2, .slice b3 x.vals.length d3, .int .i64 en] 35)).heap.size (w.alloc (.cells #[.int .i64 x.kind, .int .i64 x.half, .string x.text, .slice b1 x.list.length d1, .slice b2 x.keys.length d2, .slice b3 x.vals.length d3, .int .i64 en] 35))).drew
  clear ha hB hR
  go_enter Tryz.func32, Tryz.ntmps32
  go_upto_region 1 with fail
  generalize (w.alloc (.cells #[.int .i64 x.kind, .int .i64 x.half, .string x.text, .slice b1 x.list.length d1, .slice b2 x.keys.length d2, .slice b3 x.vals.length d3, .int .i64 en] 35)) = W1 at *
  go_region_held3 (fun w1 => w1.cell? ⟨w.heap.size, 0, none⟩ = some (.int .i64 x.kind) ∧ w1.cell? ⟨w.heap.size, 1, none⟩ = some (.int .i64 x.half) ∧ w1.cell? ⟨w.heap.size, 2, none⟩ = some (.string x.text) ∧ w1.cell? ⟨w.heap.size, 3, none⟩ = some (.slice b1 x.list.length d1) ∧ w1.cell? ⟨w.heap.size, 4, none⟩ = some (.slice b2 x.keys.length d2) ∧ w1.cell? ⟨w.heap.size, 5, none⟩ = some (.slice b3 x.vals.length d3) ∧ w1.cell? ⟨w.heap.size, 6, none⟩ = some (.int .i64 en))
    (first | with_reducible exact CELLS.out _ HQ0.out | with_reducible exact CELLS.out _ HQ1.out | with_reducible exact CELLS.out _ HQ2.out)
    (first
      | (go_at_call 67; refine (HT.out _).mono ?_; rintro e w2 ⟨rfl, hx2⟩; have HQ1 := Lib.hid (HQ0.out.trans (hx2.mono HQ0.out.size)); clear hx2)
      | (go_at_call 17; refine (HC.out _ (HB.out.trans (HQ1.out.mono HB.out.size))).mono ?_; rintro e w3 ⟨rfl, hx3⟩; have HQ2 := Lib.hid (HQ1.out.trans (hx3.mono HQ1.out.size)); clear hx3))
  go_wp2_with fail
  exact bodyPost_ret (v := .bool (en == 0 && cmpJ x (.bool true) == 0)) (by simp [results, Tryz.results32, go_sem]) rfl ⟨rfl, HB.out.trans (HQ2.out.mono HB.out.size)⟩

set_option maxHeartbeats 1000000 in
set_option maxRecDepth 100000 in
theorem no_ok (x : J) (en : Int) (w : World) (S : Nat → Prop) (c0 c1 c2 c3 c4 c5 : Value) (hx : x.ok) (hS : ∀ b, S b → b < w.heap.size) (ha : JRep w S x (.agg #[c0, c1, c2, c3, c4, c5])) (he : -10 ≤ en ∧ en ≤ 10) :
    Calls Tryz.prog 33 #[.agg #[c0, c1, c2, c3, c4, c5, .int .i64 en]] w fun e w' => e = .returned (.bool (en == 0 && cmpJ x (.bool false) == 0)) ∧ Below w.heap.size w w' := by
  obtain ⟨b1, d1, b2, d2, b3, d3, rfl, rfl, rfl, rfl, rfl, rfl⟩ := ha.cells6
  have hB := below1 w (.cells #[.int .i64 x.kind, .int .i64 x.half, .string x.text, .slice b1 x.list.length d1, .slice b2 x.keys.length d2, .slice b3 x.vals.length d3, .int .i64 en] 35)
  have HB := Lib.hid hB
  have HC := Lib.hid (fun w' (hb : Below w.heap.size w w') => given_ok x (.bool false) en w' S _ _ _ _ _ _ _ hx trivial (lt_below hb hS) (ha.below hb hS) (jrep_tf false w' S) he)
  have HT := Lib.hid (fun w' => specBool_ok false w')
  have hR := Box7.new w x.kind x.half x.text (.slice b1 x.list.length d1) (.slice b2 x.keys.length d2) (.slice b3 x.vals.length d3) en
  have CELLS := Lib.hid (fun w1 (h1 : Below (w.alloc (.cells #[.int .i64 x.kind, .int .i64 x.half, .string x.text, .slice b1 x.list.length d1, .slice b2 x.keys.length d2, .slice b3 x.vals.length d3, .int .i64 en] 35)).heap.size (w.alloc (.cells #[.int .i64 x.kind, .int .i64 x.half, .string x.text, .slice b1 x.list.length d1, .slice b2 x.keys.length d2, .slice b3 x.vals.length d3, .int .i64 en] 35)) w1) => Box7.c ((h1.block w.heap.size (by rw [size_alloc]; omega)).trans hR))
  have HQ0 := Lib.hid (Below.refl (w.alloc (.cells #[.int .i64 x.kind, .int .i64 x.half, .string x.text, .slice b1 x.list.length d1, .slice b2 x.keys.length d2, .slice b3 x.vals.length d3, .int .i64 en] 35)).heap.size (w.alloc (.cells #[.int .i64 x.kind, .int .i64 x.half, .string x.text, .slice b1 x.list.length d1, .slice b2 x.keys.length d2, .slice b3 x.vals.length d3, .int .i64 en] 35))).drew
  clear ha hB hR
  go_enter Tryz.func33, Tryz.ntmps33
  go_upto_region 1 with fail
  generalize (w.alloc (.cells #[.int .i64 x.kind, .int .i64 x.half, .string x.text, .slice b1 x.list.length d1, .slice b2 x.keys.length d2, .slice b3 x.vals.length d3, .int .i64 en] 35)) = W1 at *
  go_region_held3 (fun w1 => w1.cell? ⟨w.heap.size, 0, none⟩ = some (.int .i64 x.kind) ∧ w1.cell? ⟨w.heap.size, 1, none⟩ = some (.int .i64 x.half) ∧ w1.cell? ⟨w.heap.size, 2, none⟩ = some (.string x.text) ∧ w1.cell? ⟨w.heap.size, 3, none⟩ = some (.slice b1 x.list.length d1) ∧ w1.cell? ⟨w.heap.size, 4, none⟩ = some (.slice b2 x.keys.length d2) ∧ w1.cell? ⟨w.heap.size, 5, none⟩ = some (.slice b3 x.vals.length d3) ∧ w1.cell? ⟨w.heap.size, 6, none⟩ = some (.int .i64 en))
    (first | with_reducible exact CELLS.out _ HQ0.out | with_reducible exact CELLS.out _ HQ1.out | with_reducible exact CELLS.out _ HQ2.out)
    (first
      | (go_at_call 67; refine (HT.out _).mono ?_; rintro e w2 ⟨rfl, hx2⟩; have HQ1 := Lib.hid (HQ0.out.trans (hx2.mono HQ0.out.size)); clear hx2)
      | (go_at_call 17; refine (HC.out _ (HB.out.trans (HQ1.out.mono HB.out.size))).mono ?_; rintro e w3 ⟨rfl, hx3⟩; have HQ2 := Lib.hid (HQ1.out.trans (hx3.mono HQ1.out.size)); clear hx3))
  go_wp2_with fail
  exact bodyPost_ret (v := .bool (en == 0 && cmpJ x (.bool false) == 0)) (by simp [results, Tryz.results33, go_sem]) rfl ⟨rfl, HB.out.trans (HQ2.out.mono HB.out.size)⟩

end Go.Gj
