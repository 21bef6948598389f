/-
  Rows that the call itself builds: records one behind the other.
-/
import Derived.Test.YtnlndpgbhmkanaaGreatDoorWHalf
import Derived.Deep.AppendLies
import Derived.OneCell
namespace Go.Gj
set_option linter.unusedSimpArgs false
set_option linter.unusedVariables false
set_option linter.unnecessarySimpa false
open Go Go.RowKit Go.Proofs

/-- Cells that hold records, one behind the other. -/
def Flat (w : World) (S : Nat → Prop) : List J → List Value → Prop
  | [], xs => xs = []
  | x :: l, xs => ∃ c0 c1 c2 c3 c4 c5 rest, xs = c0 :: c1 :: c2 :: c3 :: c4 :: c5 :: rest ∧ JRep w S x (.agg #[c0, c1, c2, c3, c4, c5]) ∧ Flat w S l rest

theorem Flat.snoc {w : World} {S : Nat → Prop} {x : J} {c0 c1 c2 c3 c4 c5 : Value} (h : JRep w S x (.agg #[c0, c1, c2, c3, c4, c5])) : ∀ (l : List J) (xs : List Value), Flat w S l xs → Flat w S (l ++ [x]) (xs ++ [c0, c1, c2, c3, c4, c5])
  | [], xs, e => by obtain rfl : xs = [] := e; exact ⟨c0, c1, c2, c3, c4, c5, [], rfl, h, rfl⟩
  | y :: l, xs, e => by
    obtain ⟨d0, d1, d2, d3, d4, d5, rest, rfl, hy, hr⟩ := e
    exact ⟨d0, d1, d2, d3, d4, d5, rest ++ [c0, c1, c2, c3, c4, c5], rfl, hy, Flat.snoc h l rest hr⟩

theorem Flat.keep {w w' : World} {S S' : Nat → Prop} (hs : Same S w w') (hS : ∀ b, S b → S' b) : ∀ (l : List J) (xs : List Value), Flat w S l xs → Flat w' S' l xs
  | [], _, e => e
  | _ :: l, _, e => by
    obtain ⟨d0, d1, d2, d3, d4, d5, rest, rfl, hy, hr⟩ := e
    exact ⟨d0, d1, d2, d3, d4, d5, rest, rfl, hy.keep hs hS, Flat.keep hs hS l rest hr⟩

theorem Flat.cells {w : World} {S : Nat → Prop} {b : Nat} : ∀ (l : List J) (xs : List Value) (o : Nat), Flat w S l xs → (∀ j u, xs[j]? = some u → w.cell? ⟨b, o + j, none⟩ = some u) → VCells w S b (J.toVs l) o
  | [], _, _, _, _ => trivial
  | _ :: l, _, o, e, h => by
    obtain ⟨d0, d1, d2, d3, d4, d5, rest, rfl, hy, hr⟩ := e
    refine ⟨⟨d0, d1, d2, d3, d4, d5, h 0 _ rfl, h 1 _ rfl, h 2 _ rfl, h 3 _ rfl, h 4 _ rfl, h 5 _ rfl, hy⟩, Flat.cells l rest (o + 6) hr fun j u hu => ?_⟩
    have := h (j + 6) u hu
    rw [show o + 6 + j = o + (j + 6) by omega]; exact this

theorem addr_add (g j : Nat) : (⟨g, 0, none⟩ : Addr).add j = ⟨g, j, none⟩ := by unfold Addr.add; split <;> simp_all

/-- A slice of records that the call owns. -/
theorem slice_of_own {w : World} {S : Nat → Prop} {base : Nat} {v : Value} {l : List J} {xs : List Value} (hown : w.ownsRow base 26 6 v l.length xs) (hf : Flat w S l xs) (hl : l.length ≤ lim) (hS : ∀ b, v.ownBlock = some b → S b) : JSl w S l v := by
  rcases hown.2 with ⟨rfl, h0⟩ | ⟨g, cap, cur, rfl, hb, hg, hn, hc, hcur, htake⟩
  · exact ⟨none, 0, by rw [h0], by omega, .inl h0⟩
  · refine ⟨_, cap, rfl, by unfold lim at hl; unfold mostLen; omega, .inr ⟨g, 0, rfl, hS g rfl, Flat.cells l xs 0 hf fun j u hu => ?_⟩⟩
    have := hown.cells (g := g) rfl j u hu
    rw [addr_add] at this; simpa using this

theorem keys_of_own {w : World} {S : Nat → Prop} {base : Nat} {v : Value} {ks : List ByteArray} (hown : w.ownsRow base 9 1 v ks.length (ks.map Value.string)) (hl : ks.length ≤ lim) (hk : ∀ k ∈ ks, k.size ≤ mostLen) (hS : ∀ b, v.ownBlock = some b → S b) : KSl w S ks v := by
  rcases hown.2 with ⟨rfl, h0⟩ | ⟨g, cap, cur, rfl, hb, hg, hn, hc, hcur, htake⟩
  · exact ⟨none, 0, by rw [h0], by omega, .inl h0⟩
  · refine ⟨_, cap, rfl, by unfold lim at hl; unfold mostLen; omega, .inr ⟨g, 0, rfl, hS g rfl, ?_⟩⟩
    have hcell := fun j u hu => hown.cells (g := g) rfl j u hu
    have key : ∀ (ks : List ByteArray) (o : Nat), (∀ k ∈ ks, k.size ≤ mostLen) → (∀ j (u : Value), (ks.map Value.string)[j]? = some u → w.cell? ⟨g, o + j, none⟩ = some u) → KCells w g ks o := by
      intro ks
      induction ks with
      | nil => intro _ _ _; trivial
      | cons k ks ih =>
        intro o hk h
        refine ⟨h 0 _ rfl, hk k List.mem_cons_self, ih (o + 1) (fun x hx => hk x (List.mem_cons_of_mem _ hx)) fun j u hu => ?_⟩
        have := h (j + 1) u hu
        rw [show o + 1 + j = o + (j + 1) by omega]; exact this
    exact key ks 0 hk fun j u hu => by have := hcell j u hu; rw [addr_add] at this; simpa using this
end Go.Gj

/-
  What holds while impl.listFromGo builds its row.
-/
namespace Go.Gj
set_option linter.unusedSimpArgs false
set_option linter.unusedVariables false
set_option linter.unnecessarySimpa false
open Go Go.RowKit Go.Proofs

/-- Blocks that the call made, but for the row it builds. -/
def beside (n : Nat) (v : Value) (w : World) : Nat → Prop := fun b => n ≤ b ∧ b < w.heap.size ∧ v.ownBlock ≠ some b

theorem own_below {B : Nat} {e : TypeId} {k : Nat} {v : Value} {n : Nat} {xs : List Value} {w w' : World} (h : w.ownsRow B e k v n xs) (hb : Below w.heap.size w w') : w'.ownsRow B e k v n xs :=
  h.kept (row := none) ⟨hb.os, hb.tape, hb.output, hb.size, fun j hj _ => hb.block j hj⟩ (by cases hv : v.ownBlock <;> simp)

structure FInv (w wr : World) (l : List J) (k : Nat) (v : Value) (xs : List Value) : Prop where
  bel : Below w.heap.size w wr
  out : Box wr w.heap.size 0 0 ⟨#[]⟩ (.slice none 0 0) (.slice none 0 0) (.slice none 0 0)
  box : Box wr (w.heap.size + 1) 5 0 ⟨#[]⟩ v (.slice none 0 0) (.slice none 0 0)
  own : wr.ownsRow (w.heap.size + 2) 26 6 v k xs
  flat : Flat wr (beside (w.heap.size + 2) v wr) (l.take k) xs
  size : w.heap.size + 2 ≤ wr.heap.size

theorem FInv.over {w wr wr' : World} {l : List J} {k : Nat} {v : Value} {xs : List Value} (h : FInv w wr l k v xs) (hb : Below wr.heap.size wr wr') : FInv w wr' l k v xs where
  bel := h.bel.trans (hb.mono h.bel.size)
  out := (hb.block _ (by have := h.size; omega)).trans h.out
  box := (hb.block _ (by have := h.size; omega)).trans h.box
  own := own_below h.own hb
  flat := h.flat.keep (.of_below hb fun _ h => h.2.1) (fun _ h => ⟨h.1, Nat.lt_of_lt_of_le h.2.1 hb.size, h.2.2⟩)
  size := Nat.le_trans h.size hb.size

theorem FInv.start (w : World) (l : List J) : FInv w ((w.alloc (.cells #[.int .i64 0, .int .i64 0, .string ⟨#[]⟩, .slice none 0 0, .slice none 0 0, .slice none 0 0] 26)).alloc (.cells #[.int .i64 5, .int .i64 0, .string ⟨#[]⟩, .slice none 0 0, .slice none 0 0, .slice none 0 0] 26)) l 0 (.slice none 0 0) [] := by
  have h1 := Box.new w 0 0 ⟨#[]⟩ (.slice none 0 0) (.slice none 0 0) (.slice none 0 0)
  have h2 := Box.new (w.alloc (.cells #[.int .i64 0, .int .i64 0, .string ⟨#[]⟩, .slice none 0 0, .slice none 0 0, .slice none 0 0] 26)) 5 0 ⟨#[]⟩ (.slice none 0 0) (.slice none 0 0) (.slice none 0 0)
  rw [size_alloc w] at h2
  exact ⟨below2 _ _ _, (Below.heap_alloc _ _ _ (by rw [size_alloc]; omega)).trans h1, h2, World.ownsRow_nil _ _ _ _, rfl, by rw [size_alloc, size_alloc]; omega⟩

theorem beside_since {n : Nat} {v : Value} {w w1 w2 : World} (hv : ∀ b, v.ownBlock = some b → b < w.heap.size) (hn : n ≤ w.heap.size) (hs : w1.heap.size ≤ w2.heap.size) : ∀ b, since w.heap.size w1 b → beside n v w2 b := fun b hb =>
  ⟨Nat.le_trans hn hb.1, Nat.lt_of_lt_of_le hb.2 hs, fun e => by have := hv b e; have := hb.1; omega⟩

/-- Behind an append and the store of the new slice. -/
theorem FInv.app {w wr w3 : World} {l : List J} {k : Nat} {v : Value} {xs : List Value} (h : FInv w wr l k v xs) (hk : k < l.length) {c0 c1 c2 c3 c4 c5 : Value} (hj : JRep wr (beside (w.heap.size + 2) v wr) l[k] (.agg #[c0, c1, c2, c3, c4, c5]))
    {g cap : Nat} (hown : w3.ownsRow (w.heap.size + 2) 26 6 (.slice (some ⟨g, 0, none⟩) (k + 1) cap) (k + 1) (xs ++ [c0, c1, c2, c3, c4, c5])) (hgrow : wr.grownBy w3 v.ownBlock) (hat : v.ownBlock = some g ∨ g = wr.heap.size) :
    FInv w (w3.setCell ⟨w.heap.size + 1, 3, none⟩ (.slice (some ⟨g, 0, none⟩) (k + 1) cap)) l (k + 1) (.slice (some ⟨g, 0, none⟩) (k + 1) cap) (xs ++ [c0, c1, c2, c3, c4, c5]) := by
  have hsz := h.size
  have hob := h.own.lt
  have hg2 : w.heap.size + 2 ≤ g := (hown.lt g rfl).1
  have hout : w3.heap[w.heap.size]? = wr.heap[w.heap.size]? := hgrow.block _ (by omega) (fun e => by have := (hob _ e.symm).1; omega)
  have hbox : w3.heap[w.heap.size + 1]? = wr.heap[w.heap.size + 1]? := hgrow.block _ (by omega) (fun e => by have := (hob _ e.symm).1; omega)
  have hbel3 : Below w.heap.size w w3 := h.bel.grown hgrow h.bel.size fun k hk => by have := (hob _ hk).1; omega
  have hsame : Same (beside (w.heap.size + 2) v wr) wr (w3.setCell ⟨w.heap.size + 1, 3, none⟩ (.slice (some ⟨g, 0, none⟩) (k + 1) cap)) := fun b hb => by
    rw [Below.heap_setCell _ _ _ _ (by have := hb.1; show b ≠ w.heap.size + 1; omega)]
    exact hgrow.block b hb.2.1 fun e => hb.2.2 e.symm
  have hS : ∀ b, beside (w.heap.size + 2) v wr b → beside (w.heap.size + 2) (.slice (some ⟨g, 0, none⟩) (k + 1) cap) (w3.setCell ⟨w.heap.size + 1, 3, none⟩ (.slice (some ⟨g, 0, none⟩) (k + 1) cap)) b := fun b hb =>
    ⟨hb.1, by have := hb.2.1; have := hgrow.size; simp [World.setCell]; omega, fun e => by
      have e : g = b := by simpa [Value.ownBlock] using e
      subst e
      rcases hat with hat | hat
      · exact hb.2.2 hat
      · have := hb.2.1; omega⟩
  refine ⟨hbel3.setCell (Nat.le_succ _) _, ?_, ?_, ownsRow_setCell_below hown (by show w.heap.size + 1 < w.heap.size + 2; omega) _, ?_, by have := hgrow.size; simp [World.setCell]; omega⟩
  · unfold Box; rw [Below.heap_setCell _ _ _ _ (by show w.heap.size ≠ w.heap.size + 1; omega), hout]; exact h.out
  · have := h.box
    unfold Box at this ⊢
    rw [← hbox] at this
    simp [World.setCell, Array.getElem?_modify, this]
  · rw [List.take_succ_eq_append_getElem hk]
    exact Flat.snoc (hj.keep hsame hS) _ _ (h.flat.keep hsame hS)
end Go.Gj

/-
  impl.listFromGo.
-/
namespace Go.Gj
set_option linter.unusedSimpArgs false
set_option linter.unusedVariables false
set_option linter.unnecessarySimpa false
open Go Go.RowKit Go.Proofs

theorem info26 : (Tryz.prog.info? 26).map (fun i => (i.zero, i.size, i.bytes)) = some (some (.agg #[.int .i64 0, .int .i64 0, .string ⟨#[]⟩, .slice none 0 0, .slice none 0 0, .slice none 0 0]), 6, 104) := by kernel_rfl

theorem own_shape {w : World} {base : Nat} {e : TypeId} {size : Nat} {v : Value} {n : Nat} {xs : List Value} (h : w.ownsRow base e size v n xs) : ∃ a c, v = .slice a n c := by
  rcases h.2 with ⟨rfl, rfl⟩ | ⟨g, cap, cur, rfl, _⟩
  · exact ⟨none, 0, rfl⟩
  · exact ⟨_, _, rfl⟩

theorem _root_.Go.Gj.JRep.shape6 {w : World} {S : Nat → Prop} {x : J} {c0 c1 c2 c3 c4 c5 : Value} (h : JRep w S x (.agg #[c0, c1, c2, c3, c4, c5])) :
    ∃ rk rh rt a1 n1 m1 a2 n2 m2 a3 n3 m3, c0 = .int .i64 rk ∧ c1 = .int .i64 rh ∧ c2 = .string rt ∧ c3 = .slice a1 n1 m1 ∧ c4 = .slice a2 n2 m2 ∧ c5 = .slice a3 n3 m3 := by
  obtain ⟨s1, s2, s3, hagg, _, j1, j2, j3⟩ := h.parts
  obtain ⟨aa1, ac1, rfl, _⟩ := j1.at
  obtain ⟨aa2, ac2, rfl, _⟩ := j2.at
  obtain ⟨aa3, ac3, rfl, _⟩ := j3.at
  obtain ⟨rfl, rfl, rfl, rfl, rfl, rfl⟩ : c0 = .int .i64 x.kind ∧ c1 = .int .i64 x.half ∧ c2 = .string x.text ∧ c3 = .slice aa1 x.list.length ac1 ∧ c4 = .slice aa2 x.keys.length ac2 ∧ c5 = .slice aa3 x.vals.length ac3 := by simpa using hagg
  exact ⟨_, _, _, _, _, _, _, _, _, _, _, _, rfl, rfl, rfl, rfl, rfl, rfl⟩

set_option maxHeartbeats 4000000 in
set_option maxRecDepth 100000 in
theorem listFromGo_ok (l : List J) (hx : ∀ y ∈ l, y.sz ∧ FromGoOk y) (hlen : l.length ≤ lim) (w : World) (S : Nat → Prop) (hS : ∀ b, S b → b < w.heap.size) (b o c : Nat) (hb : S b) (ha : ACells w S b l o) :
    Calls Tryz.prog 100 #[.slice (some ⟨b, o, none⟩) l.length c] w fun e w' => ∃ v, e = .returned (.tuple #[.agg #[.int .i64 5, .int .i64 0, .string ⟨#[]⟩, v, .slice none 0 0, .slice none 0 0], .bool true]) ∧ Below w.heap.size w w' ∧ JSl w' (since w.heap.size w') l v := by
  have hlen' := hlen
  unfold lim at hlen
  obtain ⟨i0, hi, hz0, hz1, hz2⟩ := info_parts info26
  have HF := Lib.hid (FInv.start w l)
  have HI := Lib.hid (And.intro hi (And.intro hz0 (And.intro hz1 hz2)))
  clear hi hz0 hz1 hz2
  go_enter Tryz.func100, Tryz.ntmps100
  go_wp2_with fail
  go_loopw [12] (fun i wr => ∃ (k : Nat) (v : Value) (xs : List Value), k ≤ l.length ∧ i = .int .i64 k ∧ FInv w wr l k v xs) (fun i _ => l.length - (intOf i).toNat)
  case atStart => exact ⟨0, _, _, Nat.zero_le _, rfl, HF.out⟩
  case round =>
    obtain ⟨k, v, xs, hk1, rfl, hinv⟩ := hrel
    obtain ⟨va, vc, rfl⟩ := own_shape hinv.own
    by_cases hlt : k < l.length
    · obtain ⟨cv, hcv, hrep⟩ := ACells.at l o k hlt ha
      have hcw := hinv.bel.cell (p := ⟨b, o + k, none⟩) (hS b hb)
      rw [hcv] at hcw
      have HC := Lib.hid ((hx l[k] (List.getElem_mem hlt)).2 wr S cv (hx l[k] (List.getElem_mem hlt)).1 (fun b hb => Nat.lt_of_lt_of_le (hS b hb) hinv.bel.size) (hrep.below hinv.bel hS))
      have HV := Lib.hid hinv
      have hsh := hrep.shape
      clear hinv hcv hrep
      go_upto_region 5 with fail
      go_upto_region 8 with (go_at_call 77; refine HC.out.mono ?_; rintro e w' ⟨c0, c1, c2, c3, c4, c5, rfl, hb', hjr⟩; obtain ⟨rk, rh, rt, a1, n1, m1, a2, n2, m2, a3, n3, m3, rfl, rfl, rfl, rfl, rfl, rfl⟩ := hjr.shape6)
      have hsz1 := HV.out.size
      have hW : Below wr.heap.size wr ((w'.alloc (.cells #[.int .i64 rk, .int .i64 rh, .string rt, .slice a1 n1 m1, .slice a2 n2 m2, .slice a3 n3 m3] 26)).alloc (.cells #[.int .i64 rk, .int .i64 rh, .string rt, .slice a1 n1 m1, .slice a2 n2 m2, .slice a3 n3 m3] 26)) :=
        hb'.trans ((below2 w' _ _).mono hb'.size)
      have HV2 := Lib.hid (HV.out.over hW)
      have HJ := Lib.hid (hjr.keep (S' := beside (w.heap.size + 2) (.slice va k vc) ((w'.alloc (.cells #[.int .i64 rk, .int .i64 rh, .string rt, .slice a1 n1 m1, .slice a2 n2 m2, .slice a3 n3 m3] 26)).alloc (.cells #[.int .i64 rk, .int .i64 rh, .string rt, .slice a1 n1 m1, .slice a2 n2 m2, .slice a3 n3 m3] 26)))
        (.of_below (below2 w' (.cells #[.int .i64 rk, .int .i64 rh, .string rt, .slice a1 n1 m1, .slice a2 n2 m2, .slice a3 n3 m3] 26) (.cells #[.int .i64 rk, .int .i64 rh, .string rt, .slice a1 n1 m1, .slice a2 n2 m2, .slice a3 n3 m3] 26)) fun _ h => h.2) (beside_since (fun b hb => (HV.out.own.lt b hb).2) HV.out.size (below2 w' _ _).size))
      have hbz := (HV.out.over (hb'.alloc hb'.size (.cells #[.int .i64 rk, .int .i64 rh, .string rt, .slice a1 n1 m1, .slice a2 n2 m2, .slice a3 n3 m3] 26))).box
      obtain ⟨z0, z1, z2, z3, z4, z5⟩ := hbz.c
      have hnews := World.news_of_block (heap_alloc_new (w'.alloc (.cells #[.int .i64 rk, .int .i64 rh, .string rt, .slice a1 n1 m1, .slice a2 n2 m2, .slice a3 n3 m3] 26)) (.cells #[.int .i64 rk, .int .i64 rh, .string rt, .slice a1 n1 m1, .slice a2 n2 m2, .slice a3 n3 m3] 26))
      rw [size_alloc] at hnews
      have HN := Lib.hid hnews
      clear hbz hnews hW hjr hb'
      go_wp2_with (at_builtin; refine wpList_append_lies _ rfl (.tmp 25) (.tmp 27) 23 rfl (w.heap.size + 2) 26 i0 (.agg #[.int .i64 0, .int .i64 0, .string ⟨#[]⟩, .slice none 0 0, .slice none 0 0, .slice none 0 0]) 6 104 Tryz.underlying23 HI.out.1 HI.out.2.1 HI.out.2.2.1 HI.out.2.2.2 rfl (by omega) (.slice va k vc) k xs rfl HV2.out.own ⟨w'.heap.size + 1, 0, none⟩ 1 1 [.int .i64 rk, .int .i64 rh, .string rt, .slice a1 n1 m1, .slice a2 n2 m2, .slice a3 n3 m3] rfl rfl HN.out (by intro u hu; simp at hu; rcases hu with rfl | rfl | rfl | rfl | rfl | rfl <;> rfl) (by omega) (by unfold maxLen; omega) (by omega) HV2.out.size _ rfl ?_; intro g cap w3 hown hgrow hat hglt; have hb3 : w3.heap[w.heap.size + 1]? = _ := hgrow.block (w.heap.size + 1) (by have := HV2.out.size; omega) (fun e => by have := (HV2.out.own.lt _ e.symm).1; omega); have hbx3 : Box w3 (w.heap.size + 1) 5 0 ⟨#[]⟩ (.slice va k vc) (.slice none 0 0) (.slice none 0 0) := hb3.trans HV2.out.box; obtain ⟨q0, q1, q2, q3, q4, q5⟩ := hbx3.c; have qf := hbx3.f 3; have HA := Lib.hid (HV2.out.app hlt HJ.out hown hgrow hat); clear hown hgrow hat hb3 hbx3)
      go_roundw
      case rel => exact ⟨k + 1, _, _, hlt, by go_num, HA.out⟩
      case measure => simp [intOf]; omega
    · obtain rfl : k = l.length := by omega
      have HV := Lib.hid hinv
      obtain ⟨y0, y1, y2, y3, y4, y5⟩ := hinv.out.c
      have yf := hinv.out.f
      obtain ⟨z0, z1, z2, z3, z4, z5⟩ := hinv.box.c
      clear hinv
      go_wp2_with fail
      have HZ := Lib.hid (set6_box HV.out.out (k' := 5) (h' := 0) (t' := ⟨#[]⟩) (r1 := .slice va l.length vc) (r2 := .slice none 0 0) (r3 := .slice none 0 0)).c
      have hfl := HV.out.flat
      rw [List.take_length] at hfl
      have hsl := slice_of_own (S := fun b => w.heap.size + 2 ≤ b ∧ b < wr.heap.size) HV.out.own (hfl.keep (fun _ _ => rfl) fun b hb => ⟨hb.1, hb.2.1⟩) hlen' (fun b e => HV.out.own.lt b e)
      have HR := Lib.hid (hsl.keep (w' := set6 wr w.heap.size (.int .i64 5) (.int .i64 0) (.string ⟨#[]⟩) (.slice va l.length vc) (.slice none 0 0) (.slice none 0 0)) (S' := since w.heap.size (set6 wr w.heap.size (.int .i64 5) (.int .i64 0) (.string ⟨#[]⟩) (.slice va l.length vc) (.slice none 0 0) (.slice none 0 0)))
        (fun b hb => set6_other _ _ _ _ _ _ b (by have := hb.1; omega)) (fun b hb => ⟨by have := hb.1; omega, by rw [set6_size]; exact hb.2⟩))
      clear hfl hsl
      refine bodyPost_ret (w := set6 wr w.heap.size (.int .i64 5) (.int .i64 0) (.string ⟨#[]⟩) (.slice va l.length vc) (.slice none 0 0) (.slice none 0 0)) (v := .tuple #[.agg #[.int .i64 5, .int .i64 0, .string ⟨#[]⟩, .slice va l.length vc, .slice none 0 0, .slice none 0 0], .bool true]) ?_ rfl ?_
      · obtain ⟨y0, y1, y2, y3, y4, y5⟩ := HZ.out
        simp [results, Tryz.results100, go_sem, y0, y1, y2, y3, y4, y5]
      · exact ⟨_, rfl, HV.out.bel.trans (below_set6 (Nat.le_refl _) _ _ _ _ _ _), HR.out⟩
end Go.Gj
