/-
  impl.toGo: a record becomes a value of any, in new memory.
-/
import Derived.Test.YtnlndpgbhmkanaaGreatDoorMapL
import Derived.Test.YtnlndpgbhmkanaaGreatDoorPlK
namespace Go.Gj
open Go Go.RowKit Go.Proofs

/-- The blocks that came since. -/
def since (n : Nat) (w : World) : Nat → Prop := fun b => n ≤ b ∧ b < w.heap.size

theorem ARep.below {w w' : World} {S : Nat → Prop} {x : J} {v : Value} (h : ARep w S x v) {B : Nat} (hb : Below B w w') (hS : ∀ b, S b → b < B) : ARep w' S x v := ARep.keep (.of_below hb hS) (fun _ h => h) _ _ h
theorem ARep.mono {w : World} {S S' : Nat → Prop} {x : J} {v : Value} (h : ARep w S x v) (hS : ∀ b, S b → S' b) : ARep w S' x v := ARep.keep (fun _ _ => rfl) hS _ _ h
theorem ARep.since {w w' : World} {n m : Nat} {x : J} {v : Value} (h : ARep w (Gj.since n w) x v) (hb : Below w.heap.size w w') (hm : m ≤ n) : ARep w' (Gj.since m w') x v :=
  ARep.keep (.of_below hb fun _ h => h.2) (fun _ h => ⟨Nat.le_trans hm h.1, Nat.lt_of_lt_of_le h.2 hb.size⟩) _ _ h

theorem ARep.one {w : World} {S : Nat → Prop} {x : J} {v : Value} (h : ARep w S x v) : v.oneCell' = true := by
  cases x with
  | null => rw [show v = .nilIface from h]; rfl
  | bool b => rw [show v = .iface 4 (.bool b) from h]; rfl
  | num n => rcases h with ⟨_, _, _, rfl⟩ | ⟨_, _, rfl⟩ <;> rfl
  | str s => rw [h.1]; rfl
  | arr l => obtain ⟨b, o, c, rfl, _⟩ := h; rfl
  | obj ks vs => obtain ⟨r, es, clk, rfl, _⟩ := h; rfl
theorem ARep.shape {w : World} {S : Nat → Prop} {x : J} {v : Value} (h : ARep w S x v) : v = .nilIface ∨ ∃ t g, v = .iface t g := by
  cases x with
  | null => exact .inl h
  | bool b => exact .inr ⟨_, _, h⟩
  | num n => rcases h with ⟨_, _, _, rfl⟩ | ⟨_, _, rfl⟩ <;> exact .inr ⟨_, _, rfl⟩
  | str s => exact .inr ⟨_, _, h.1⟩
  | arr l => obtain ⟨b, o, c, rfl, _⟩ := h; exact .inr ⟨_, _, rfl⟩
  | obj ks vs => obtain ⟨r, es, clk, rfl, _⟩ := h; exact .inr ⟨_, _, rfl⟩
theorem ACells.of {w : World} {S : Nat → Prop} {b : Nat} : ∀ (l : List J) (o : Nat), (∀ j (hj : j < l.length), ∃ c, w.cell? ⟨b, o + j, none⟩ = some c ∧ ARep w S l[j] c) → ACells w S b l o
  | [], _, _ => trivial
  | x :: xs, o, h => ⟨h 0 (Nat.zero_lt_succ _), ACells.of xs (o + 1) fun j hj => by
      have := h (j + 1) (by simpa using hj)
      rw [show o + (j + 1) = o + 1 + j by omega] at this
      simpa using this⟩

/-- A new slice, filled up to a place. -/
def OutInv (w : World) (B : Nat) (l : List J) (k : Nat) : Prop :=
  ∃ cs : Array Value, w.heap[B]? = some (.cells cs 20) ∧ cs.size = l.length ∧ ∀ j (hj : j < l.length), j < k → ∃ c, cs[j]? = some c ∧ ARep w (since (B + 1) w) l[j] c

theorem OutInv.lt {w : World} {B : Nat} {l : List J} {k : Nat} (h : OutInv w B l k) : B < w.heap.size := by
  obtain ⟨cs, h, _⟩ := h; exact (Array.getElem?_eq_some_iff.1 h).1
theorem OutInv.cell {w : World} {B : Nat} {l : List J} {k : Nat} (h : OutInv w B l k) (j : Nat) (hj : j < l.length) : ∃ v, w.cell? ⟨B, j, none⟩ = some v := by
  obtain ⟨cs, h, hs, _⟩ := h
  exact ⟨cs[j]'(by omega), by simp [World.cell?, h]⟩
theorem OutInv.frozen {w : World} {B : Nat} {l : List J} {k : Nat} (h : OutInv w B l k) (j : Nat) : w.frozen? ⟨B, j, none⟩ = false := by
  obtain ⟨cs, h, _⟩ := h
  simp [World.frozen?, h]
theorem OutInv.below {w w' : World} {B : Nat} {l : List J} {k : Nat} (h : OutInv w B l k) (hb : Below w.heap.size w w') : OutInv w' B l k := by
  have hlt := h.lt
  obtain ⟨cs, h, hs, ha⟩ := h
  refine ⟨cs, (hb.block B hlt).trans h, hs, fun j hj hk => ?_⟩
  obtain ⟨c, hc, hr⟩ := ha j hj hk
  exact ⟨c, hc, hr.since hb (Nat.le_refl _)⟩
theorem OutInv.set {w : World} {B : Nat} {l : List J} {k : Nat} (h : OutInv w B l k) (hk : k < l.length) {g : Value} (hg : ARep w (since (B + 1) w) l[k] g) : OutInv (w.setCell ⟨B, k, none⟩ g) B l (k + 1) := by
  obtain ⟨cs, h, hs, ha⟩ := h
  have hsame : Same (Gj.since (B + 1) w) w (w.setCell ⟨B, k, none⟩ g) := fun b hb => Below.heap_setCell _ _ _ _ (by have := hb.1; show b ≠ B; omega)
  refine ⟨cs.setIfInBounds k g, by simp [World.setCell, Array.getElem?_modify, h], by simpa using hs, fun j hj hjk => ?_⟩
  by_cases e : j = k
  · subst e
    exact ⟨g, by rw [Array.getElem?_setIfInBounds_self_of_lt (by omega)], ARep.keep hsame (fun b hb => ⟨hb.1, by simpa [World.setCell] using hb.2⟩) _ _ hg⟩
  · obtain ⟨c, hc, hr⟩ := ha j hj (by omega)
    exact ⟨c, by rw [Array.getElem?_setIfInBounds_ne (by omega)]; exact hc, ARep.keep hsame (fun b hb => ⟨hb.1, by simpa [World.setCell] using hb.2⟩) _ _ hr⟩
theorem OutInv.all {w : World} {B : Nat} {l : List J} (h : OutInv w B l l.length) : ACells w (since B w) B l 0 := by
  obtain ⟨cs, h, hs, ha⟩ := h
  refine ACells.of l 0 fun j hj => ?_
  obtain ⟨c, hc, hr⟩ := ha j hj hj
  exact ⟨c, by simp [World.cell?, h, hc], hr.mono fun b hb => ⟨by have := hb.1; omega, hb.2⟩⟩

theorem info20 : (Tryz.prog.info? 20).map (fun i => (i.zero, i.size, i.bytes)) = some (some .nilIface, 1, 16) := by kernel_rfl

def ToGoOk (x : J) : Prop := ∀ (w : World) (S : Nat → Prop) (val : Value), x.ok → (∀ b, S b → b < w.heap.size) → JRep w S x val →
  Calls Tryz.prog 49 #[val] w fun e w' => ∃ g, e = .returned (.tuple #[g, .bool true]) ∧ Below w.heap.size w w' ∧ ARep w' (since w.heap.size w') x g

theorem run_make80 (w : World) (n : Nat) (hn : n ≤ 10000000000) : (Instr.makeSlice 80 (.int .i64 n) (.int .i64 n)).run Tryz.prog w = .ok (.slice (some ⟨w.heap.size, 0, none⟩) n n) (w.alloc (.cells (madeCells #[.nilIface] n) 20)) := by
  obtain ⟨i0, hi, hz0, hz1, hz2⟩ := info_parts info20
  have := run_make w 80 20 i0 .nilIface Tryz.underlying80 hi hz0 .i64 .i64 (n : Int) (n : Int) (by omega) (Int.le_refl _) (by rw [hz2]; omega) (by omega)
  rw [hz1] at this
  simpa [Value.cells] using this

theorem OutInv.new (w : World) (l : List J) : OutInv (w.alloc (.cells (madeCells #[.nilIface] l.length) 20)) w.heap.size l 0 := by
  refine ⟨madeCells #[.nilIface] l.length, ?_, by rw [size_madeCells], fun j _ h => absurd h (Nat.not_lt_zero _)⟩
  rw [show (w.alloc (.cells (madeCells #[.nilIface] l.length) 20)).heap = w.heap.push (.cells (madeCells #[.nilIface] l.length) 20) from rfl, Array.getElem?_push_size]

set_option maxRecDepth 100000 in
theorem listToGo_ok (l : List J) (hx : ∀ x ∈ l, x.ok ∧ ToGoOk x) (hlen : l.length ≤ lim) (w : World) (S : Nat → Prop) (hS : ∀ b, S b → b < w.heap.size) (va : Value) (ha : JSl w S l va) :
    Calls Tryz.prog 75 #[va] w fun e w' => ∃ B, e = .returned (.tuple #[.slice (some ⟨B, 0, none⟩) l.length l.length, .bool true]) ∧ Below w.heap.size w w' ∧ w.heap.size ≤ B ∧ B < w'.heap.size ∧ ACells w' (since w.heap.size w') B l 0 := by
  obtain ⟨a1, c1, rfl, hn1, h1⟩ := ha.at
  unfold mostLen at hn1
  unfold lim at hlen
  have hmk := run_make80 w l.length (by omega)
  have HO := Lib.hid (OutInv.new w l)
  have HB := Lib.hid (below1 w (.cells (madeCells #[.nilIface] l.length) 20))
  go_enter Tryz.func75, Tryz.ntmps75
  go_wp2_with fail
  go_loopw [14] (fun i wr => ∃ k : Nat, k ≤ l.length ∧ i = .int .i64 k ∧ Below w.heap.size w wr ∧ OutInv wr w.heap.size l k) (fun i _ => l.length - (intOf i).toNat)
  case atStart => exact ⟨0, Nat.zero_le _, rfl, HB.out, HO.out⟩
  case round =>
    obtain ⟨k, hk1, rfl, hbel, hinv⟩ := hrel
    by_cases hlt : k < l.length
    · obtain ⟨b1, o1, rfl, hs1, d0, d1, d2, d3, d4, d5, g0, g1, g2, g3, g4, g5, hr1⟩ := h1 k hlt
      have G := fun o => hbel.cell (p := ⟨b1, o, none⟩) (hS b1 hs1)
      rw [← G] at g0 g1 g2 g3 g4 g5
      clear G
      obtain ⟨s1, s2, s3, hagg, _, j1, j2, j3⟩ := hr1.parts
      obtain ⟨aa1, ac1, rfl, _⟩ := j1.at
      obtain ⟨aa2, ac2, rfl, _⟩ := j2.at
      obtain ⟨aa3, ac3, rfl, _⟩ := j3.at
      obtain ⟨rfl, rfl, rfl, rfl, rfl, rfl⟩ : d0 = .int .i64 l[k].kind ∧ d1 = .int .i64 l[k].half ∧ d2 = .string l[k].text ∧ d3 = .slice aa1 l[k].list.length ac1 ∧ d4 = .slice aa2 l[k].keys.length ac2 ∧ d5 = .slice aa3 l[k].vals.length ac3 := by simpa using hagg
      clear hagg j1 j2 j3
      have HB2 := Lib.hid (below1 wr (.cells #[.int .i64 l[k].kind, .int .i64 l[k].half, .string l[k].text, .slice aa1 l[k].list.length ac1, .slice aa2 l[k].keys.length ac2, .slice aa3 l[k].vals.length ac3] 26))
      have hin2 := hinv.below HB2.out
      have hr2 := hr1.below (w' := wr) hbel hS
      have hr2 := hr2.below HB2.out (fun b hb => Nat.lt_of_lt_of_le (hS b hb) hbel.size)
      have HC := Lib.hid ((hx l[k] (List.getElem_mem hlt)).2 _ S _ (hx l[k] (List.getElem_mem hlt)).1 (fun b hb => Nat.lt_of_lt_of_le (Nat.lt_of_lt_of_le (hS b hb) hbel.size) HB2.out.size) hr2)
      have HL := Lib.hid (hinv.lt)
      have HI := Lib.hid hin2
      have HBe := Lib.hid hbel
      clear hinv hin2 hr1 hr2 hbel
      go_upto_region 5 with fail
      go_upto_region 8 with (go_at_call 49; refine HC.out.mono ?_; rintro e w' ⟨g, rfl, hb', hg⟩)
      have HI2 := HI.out.below hb'
      obtain ⟨cv, hcv⟩ := HI2.cell k hlt
      have hfz := HI2.frozen k
      have HI3 := Lib.hid (HI2.set hlt (ARep.mono hg fun b hb => ⟨Nat.le_trans (Nat.le_trans HL.out HB2.out.size) hb.1, hb.2⟩))
      have HB3 := Lib.hid (((HBe.out.trans (HB2.out.mono HBe.out.size)).trans (hb'.mono (Nat.le_trans HBe.out.size HB2.out.size))).setCell (p := ⟨w.heap.size, k, none⟩) (Nat.le_refl _) g)
      have hsh := hg.shape
      clear HI2 hg
      rcases hsh with rfl | ⟨gt, gv, rfl⟩
      all_goals
        go_wp2_with fail
        go_roundw
        case rel => exact ⟨k + 1, hlt, by go_num, HB3.out, HI3.out⟩
        case measure => simp [intOf]; omega
    · have he : k = l.length := by omega
      have HO := Lib.hid (he ▸ hinv)
      have HBe := Lib.hid hbel
      clear hinv he hbel
      go_wp2_with fail
      exact bodyPost_ret (v := .tuple #[.slice (some ⟨w.heap.size, 0, none⟩) l.length l.length, .bool true]) (by simp [results, Tryz.results75, go_sem]) rfl ⟨_, rfl, HBe.out, Nat.le_refl _, HO.out.lt, HO.out.all⟩
end Go.Gj
