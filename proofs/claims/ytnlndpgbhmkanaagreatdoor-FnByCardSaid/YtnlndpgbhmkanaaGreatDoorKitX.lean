/-
  How values of the program's memory stand for plain data: a record impl.Value for V, a value of any for J. S: the blocks that it may lie in.
-/
import Derived.Test.YtnlndpgbhmkanaaGreatDoorPlB
import Derived.Test.YtnlndpgbhmkanaaGreatDoorPlG
import Derived.Below
import Derived.MapKept
import Derived.Test.YtnlndpgbhmkanaaGreatDoorProg
import Derived.WalkKit
import Derived.WalkLawsBesides
import Derived.WalkSpells
import Derived.Outline
import Derived.StillTailTactics
import Derived.Deep.LoopGhost
import Derived.Deep.RegionWith
import Derived.Deep.QuietTactic
import Derived.Deep.DeepFit
import Derived.BigQuiet
import Derived.BigGuardPart
import Derived.Deep.DeepCutAuto
import Derived.Deep.CutBlock
import Derived.Lib.Hide
namespace Go.Gj
open Go.RowKit

/-- No slice, string or map is longer. -/
def mostLen : Nat := 140737488351232
/-- The greatest capacity of a list that goes through gojq. -/
def capMost : Nat := 9223372036854775807

/-- A slice of n elements that lie in one block from a place on. -/
def SlOf (S : Nat → Prop) (n : Nat) (Q : Nat → Nat → Prop) (v : Value) : Prop :=
  ∃ a c, v = .slice a n c ∧ n ≤ mostLen ∧ (n = 0 ∨ ∃ b o, a = some ⟨b, o, none⟩ ∧ S b ∧ Q b o)

/-- Strings in cells. -/
def KCells (w : World) (b : Nat) : List ByteArray → Nat → Prop
  | [], _ => True
  | k :: ks, o => w.cell? ⟨b, o, none⟩ = some (.string k) ∧ k.size ≤ mostLen ∧ KCells w b ks (o + 1)

mutual
def VRep (w : World) (S : Nat → Prop) : V → Value → Prop
  | .mk k h t l ks vs, v => ∃ s1 s2 s3, v = .agg #[.int .i64 k, .int .i64 h, .string t, s1, s2, s3] ∧ t.size ≤ mostLen ∧
      (-9223372036854775808 ≤ k ∧ k ≤ 9223372036854775807) ∧ (-9223372036854775808 ≤ h ∧ h ≤ 9223372036854775807) ∧
      SlOf S l.length (fun b o => VCells w S b l o) s1 ∧ SlOf S ks.length (fun b o => KCells w b ks o) s2 ∧ SlOf S vs.length (fun b o => VCells w S b vs o) s3
def VCells (w : World) (S : Nat → Prop) (b : Nat) : List V → Nat → Prop
  | [], _ => True
  | x :: xs, o => (∃ c0 c1 c2 c3 c4 c5, w.cell? ⟨b, o, none⟩ = some c0 ∧ w.cell? ⟨b, o + 1, none⟩ = some c1 ∧ w.cell? ⟨b, o + 2, none⟩ = some c2 ∧
      w.cell? ⟨b, o + 3, none⟩ = some c3 ∧ w.cell? ⟨b, o + 4, none⟩ = some c4 ∧ w.cell? ⟨b, o + 5, none⟩ = some c5 ∧ VRep w S x (.agg #[c0, c1, c2, c3, c4, c5])) ∧ VCells w S b xs (o + 6)
end

mutual
def ARep (w : World) (S : Nat → Prop) : J → Value → Prop
  | .null, v => v = .nilIface
  | .bool b, v => v = .iface 4 (.bool b)
  | .num h, v => (h % 2 = 0 ∧ -4611686018427387904 ≤ h ∧ h ≤ 4611686018427387904 ∧ v = .iface 3 (.int .i64 (h / 2))) ∨
      (h % 2 = 1 ∧ h.natAbs < 2 ^ 53 ∧ v = .iface 79 (.float .f64 (fl h (-1))))
  | .str s, v => v = .iface 9 (.string s) ∧ s.size ≤ mostLen
  | .arr l, v => ∃ b o c, v = .iface 80 (.slice (some ⟨b, o, none⟩) l.length c) ∧ (l.length ≤ c ∧ c ≤ capMost) ∧ S b ∧ ACells w S b l o
  | .obj ks vs, v => ∃ r es clk, v = .iface 83 (.map (some r)) ∧ S r ∧ w.heap[r]? = some (.map es clk) ∧ Go.MapKept.Stamped es clk ∧
      (es.toList.map (·.key)).Perm (ks.map Value.string) ∧ (∀ k ∈ ks, k.size ≤ mostLen) ∧ AVals w S es ks vs
def ACells (w : World) (S : Nat → Prop) (b : Nat) : List J → Nat → Prop
  | [], _ => True
  | x :: xs, o => (∃ c, w.cell? ⟨b, o, none⟩ = some c ∧ ARep w S x c) ∧ ACells w S b xs (o + 1)
def AVals (w : World) (S : Nat → Prop) (es : Array MapEntry) : List ByteArray → List J → Prop
  | ks, [] => ks = []
  | ks, x :: xs => ∃ k ks', ks = k :: ks' ∧ (∃ e ∈ es.toList, e.key = .string k ∧ ARep w S x e.val) ∧ AVals w S es ks' xs
end

/-- Blocks are as they were. -/
def Same (S : Nat → Prop) (w w' : World) : Prop := ∀ b, S b → w'.heap[b]? = w.heap[b]?

theorem Same.cell {S : Nat → Prop} {w w' : World} (h : Same S w w') {b o : Nat} (hb : S b) : w'.cell? ⟨b, o, none⟩ = w.cell? ⟨b, o, none⟩ :=
  World.cell?_of_block (w := w) (h b hb)

theorem Same.of_below {B : Nat} {w w' : World} (h : Below B w w') {S : Nat → Prop} (hS : ∀ b, S b → b < B) : Same S w w' := fun b hb => h.block b (hS b hb)

theorem SlOf.keep {S S' : Nat → Prop} {n : Nat} {Q Q' : Nat → Nat → Prop} {v : Value} (h : SlOf S n Q v) (hS : ∀ b, S b → S' b) (hQ : ∀ b o, S b → Q b o → Q' b o) : SlOf S' n Q' v := by
  obtain ⟨a, c, hv, hn, h⟩ := h
  refine ⟨a, c, hv, hn, ?_⟩
  rcases h with h | ⟨b, o, ha, hb, hq⟩
  · exact .inl h
  · exact .inr ⟨b, o, ha, hS b hb, hQ b o hb hq⟩

theorem KCells.keep {w w' : World} {b : Nat} (h : ∀ o, w'.cell? ⟨b, o, none⟩ = w.cell? ⟨b, o, none⟩) : ∀ (ks : List ByteArray) (o : Nat), KCells w b ks o → KCells w' b ks o
  | [], _, _ => trivial
  | _ :: ks, o, hk => ⟨(h o).trans hk.1, hk.2.1, KCells.keep h ks (o + 1) hk.2.2⟩

mutual
theorem VRep.keep {w w' : World} {S S' : Nat → Prop} (hs : Same S w w') (hS : ∀ b, S b → S' b) : ∀ (x : V) (v : Value), VRep w S x v → VRep w' S' x v
  | .mk k h t l ks vs, v => by
    rintro ⟨s1, s2, s3, hv, ht, hk, hh, h1, h2, h3⟩
    refine ⟨s1, s2, s3, hv, ht, hk, hh, h1.keep hS fun b o hb hq => ?_, h2.keep hS fun b o hb hq => ?_, h3.keep hS fun b o hb hq => ?_⟩
    · exact VCells.keep hs hS b hb l o hq
    · exact KCells.keep (fun o => hs.cell hb) ks o hq
    · exact VCells.keep hs hS b hb vs o hq
theorem VCells.keep {w w' : World} {S S' : Nat → Prop} (hs : Same S w w') (hS : ∀ b, S b → S' b) (b : Nat) (hb : S b) : ∀ (l : List V) (o : Nat), VCells w S b l o → VCells w' S' b l o
  | [], _ => fun _ => trivial
  | x :: xs, o => by
    rintro ⟨⟨c0, c1, c2, c3, c4, c5, h0, h1, h2, h3, h4, h5, hr⟩, hxs⟩
    exact ⟨⟨c0, c1, c2, c3, c4, c5, (hs.cell hb).trans h0, (hs.cell hb).trans h1, (hs.cell hb).trans h2, (hs.cell hb).trans h3, (hs.cell hb).trans h4, (hs.cell hb).trans h5, VRep.keep hs hS x _ hr⟩, VCells.keep hs hS b hb xs (o + 6) hxs⟩
end

mutual
theorem ARep.keep {w w' : World} {S S' : Nat → Prop} (hs : Same S w w') (hS : ∀ b, S b → S' b) : ∀ (x : J) (v : Value), ARep w S x v → ARep w' S' x v
  | .null, _ => fun h => h
  | .bool _, _ => fun h => h
  | .num _, _ => fun h => h
  | .str _, _ => fun h => h
  | .arr l, v => by
    rintro ⟨b, o, c, hv, hn, hb, hq⟩
    exact ⟨b, o, c, hv, hn, hS b hb, ACells.keep hs hS b hb l o hq⟩
  | .obj ks vs, v => by
    rintro ⟨r, es, clk, hv, hr, hh, hnd, hp, hk, ha⟩
    exact ⟨r, es, clk, hv, hS r hr, (hs r hr).trans hh, hnd, hp, hk, AVals.keep hs hS es ks vs ha⟩
theorem ACells.keep {w w' : World} {S S' : Nat → Prop} (hs : Same S w w') (hS : ∀ b, S b → S' b) (b : Nat) (hb : S b) : ∀ (l : List J) (o : Nat), ACells w S b l o → ACells w' S' b l o
  | [], _ => fun _ => trivial
  | x :: xs, o => by
    rintro ⟨⟨c, hc, hr⟩, hxs⟩
    exact ⟨⟨c, (hs.cell hb).trans hc, ARep.keep hs hS x c hr⟩, ACells.keep hs hS b hb xs (o + 1) hxs⟩
theorem AVals.keep {w w' : World} {S S' : Nat → Prop} (hs : Same S w w') (hS : ∀ b, S b → S' b) (es : Array MapEntry) : ∀ (ks : List ByteArray) (vs : List J), AVals w S es ks vs → AVals w' S' es ks vs
  | _, [] => fun h => h
  | ks, x :: xs => by
    rintro ⟨k, ks', hk, ⟨e, he, hke, hr⟩, hxs⟩
    exact ⟨k, ks', hk, ⟨e, he, hke, ARep.keep hs hS x _ hr⟩, AVals.keep hs hS es ks' xs hxs⟩
end

/-- The element at a place. -/
theorem VCells.at {w : World} {S : Nat → Prop} {b : Nat} : ∀ (l : List V) (o i : Nat) (hi : i < l.length), VCells w S b l o →
    ∃ c0 c1 c2 c3 c4 c5, w.cell? ⟨b, o + i * 6, none⟩ = some c0 ∧ w.cell? ⟨b, o + i * 6 + 1, none⟩ = some c1 ∧ w.cell? ⟨b, o + i * 6 + 2, none⟩ = some c2 ∧
      w.cell? ⟨b, o + i * 6 + 3, none⟩ = some c3 ∧ w.cell? ⟨b, o + i * 6 + 4, none⟩ = some c4 ∧ w.cell? ⟨b, o + i * 6 + 5, none⟩ = some c5 ∧ VRep w S l[i] (.agg #[c0, c1, c2, c3, c4, c5])
  | x :: xs, o, 0, _, h => by simpa using h.1
  | x :: xs, o, i + 1, hi, h => by
    have := VCells.at xs (o + 6) i (by simpa using hi) h.2
    rw [show o + (i + 1) * 6 = o + 6 + i * 6 by omega]
    simpa using this

theorem KCells.at {w : World} {b : Nat} : ∀ (l : List ByteArray) (o i : Nat) (hi : i < l.length), KCells w b l o → w.cell? ⟨b, o + i, none⟩ = some (.string l[i]) ∧ l[i].size ≤ mostLen
  | x :: xs, o, 0, _, h => by simpa using ⟨h.1, h.2.1⟩
  | x :: xs, o, i + 1, hi, h => by
    have := KCells.at xs (o + 1) i (by simpa using hi) h.2.2
    rw [show o + (i + 1) = o + 1 + i by omega]
    simpa using this

theorem ACells.at {w : World} {S : Nat → Prop} {b : Nat} : ∀ (l : List J) (o i : Nat) (hi : i < l.length), ACells w S b l o → ∃ c, w.cell? ⟨b, o + i, none⟩ = some c ∧ ARep w S l[i] c
  | x :: xs, o, 0, _, h => by simpa using h.1
  | x :: xs, o, i + 1, hi, h => by
    have := ACells.at xs (o + 1) i (by simpa using hi) h.2
    rw [show o + (i + 1) = o + 1 + i by omega]
    simpa using this

#print axioms ARep.keep
#print axioms VCells.at
end Go.Gj

/-
  A record impl.Value that stands for a value of JSON, opened.
-/
namespace Go.Gj
open Go.RowKit

/-- A record that stands for a value of JSON. -/
def JRep (w : World) (S : Nat → Prop) (x : J) (v : Value) : Prop := VRep w S x.toV v

/-- A slice of such records; of strings. -/
def JSl (w : World) (S : Nat → Prop) (l : List J) (v : Value) : Prop := SlOf S l.length (fun b o => VCells w S b (J.toVs l) o) v
def KSl (w : World) (S : Nat → Prop) (ks : List ByteArray) (v : Value) : Prop := SlOf S ks.length (fun b o => KCells w b ks o) v

theorem JRep.parts {w : World} {S : Nat → Prop} {x : J} {v : Value} (h : JRep w S x v) :
    ∃ s1 s2 s3, v = .agg #[.int .i64 x.kind, .int .i64 x.half, .string x.text, s1, s2, s3] ∧ x.text.size ≤ mostLen ∧ JSl w S x.list s1 ∧ KSl w S x.keys s2 ∧ JSl w S x.vals s3 := by
  unfold JRep at h
  rw [toV_eq] at h
  obtain ⟨s1, s2, s3, hv, ht, _, _, h1, h2, h3⟩ := h
  rw [toVs_length] at h1 h3
  exact ⟨s1, s2, s3, hv, ht, h1, h2, h3⟩

theorem JRep.keep {w w' : World} {S S' : Nat → Prop} {x : J} {v : Value} (h : JRep w S x v) (hs : Same S w w') (hS : ∀ b, S b → S' b) : JRep w' S' x v := VRep.keep hs hS _ _ h
theorem JSl.keep {w w' : World} {S S' : Nat → Prop} {l : List J} {v : Value} (h : JSl w S l v) (hs : Same S w w') (hS : ∀ b, S b → S' b) : JSl w' S' l v :=
  SlOf.keep h hS fun b o hb hq => VCells.keep hs hS b hb _ o hq
theorem KSl.keep {w w' : World} {S S' : Nat → Prop} {l : List ByteArray} {v : Value} (h : KSl w S l v) (hs : Same S w w') (hS : ∀ b, S b → S' b) : KSl w' S' l v :=
  SlOf.keep h hS fun _ o hb hq => KCells.keep (fun _ => hs.cell hb) _ o hq

/-- Over new blocks. -/
theorem JRep.below {w w' : World} {S : Nat → Prop} {x : J} {v : Value} (h : JRep w S x v) {B : Nat} (hb : Below B w w') (hS : ∀ b, S b → b < B) : JRep w' S x v := h.keep (.of_below hb hS) fun _ h => h
theorem JSl.below {w w' : World} {S : Nat → Prop} {l : List J} {v : Value} (h : JSl w S l v) {B : Nat} (hb : Below B w w') (hS : ∀ b, S b → b < B) : JSl w' S l v := h.keep (.of_below hb hS) fun _ h => h
theorem KSl.below {w w' : World} {S : Nat → Prop} {l : List ByteArray} {v : Value} (h : KSl w S l v) {B : Nat} (hb : Below B w w') (hS : ∀ b, S b → b < B) : KSl w' S l v := h.keep (.of_below hb hS) fun _ h => h

/-- The element at a place. -/
theorem JSl.at {w : World} {S : Nat → Prop} {l : List J} {v : Value} (h : JSl w S l v) : ∃ a c, v = .slice a l.length c ∧ l.length ≤ mostLen ∧ ∀ i (hi : i < l.length), ∃ b o, a = some ⟨b, o, none⟩ ∧ S b ∧
    ∃ c0 c1 c2 c3 c4 c5, w.cell? ⟨b, o + i * 6, none⟩ = some c0 ∧ w.cell? ⟨b, o + i * 6 + 1, none⟩ = some c1 ∧ w.cell? ⟨b, o + i * 6 + 2, none⟩ = some c2 ∧
      w.cell? ⟨b, o + i * 6 + 3, none⟩ = some c3 ∧ w.cell? ⟨b, o + i * 6 + 4, none⟩ = some c4 ∧ w.cell? ⟨b, o + i * 6 + 5, none⟩ = some c5 ∧ JRep w S l[i] (.agg #[c0, c1, c2, c3, c4, c5]) := by
  obtain ⟨a, c, hv, hn, h⟩ := h
  refine ⟨a, c, hv, hn, fun i hi => ?_⟩
  obtain ⟨b, o, ha, hb, hq⟩ := h.resolve_left (by omega)
  refine ⟨b, o, ha, hb, ?_⟩
  obtain ⟨c0, c1, c2, c3, c4, c5, h0, h1, h2, h3, h4, h5, hr⟩ := VCells.at _ o i (by rw [toVs_length]; exact hi) hq
  have e : (J.toVs l)[i]'(by rw [toVs_length]; exact hi) = l[i].toV := by simp [toVs_eq_map]
  rw [e] at hr
  exact ⟨c0, c1, c2, c3, c4, c5, h0, h1, h2, h3, h4, h5, hr⟩

theorem KSl.at {w : World} {S : Nat → Prop} {l : List ByteArray} {v : Value} (h : KSl w S l v) : ∃ a c, v = .slice a l.length c ∧ l.length ≤ mostLen ∧ ∀ i (hi : i < l.length), ∃ b o, a = some ⟨b, o, none⟩ ∧ S b ∧
    w.cell? ⟨b, o + i, none⟩ = some (.string l[i]) ∧ l[i].size ≤ mostLen := by
  obtain ⟨a, c, hv, hn, h⟩ := h
  refine ⟨a, c, hv, hn, fun i hi => ?_⟩
  obtain ⟨b, o, ha, hb, hq⟩ := h.resolve_left (by omega)
  exact ⟨b, o, ha, hb, KCells.at l o i hi hq⟩
end Go.Gj

namespace Go.Gj
open Go.RowKit

/-- The world with two boxes more. -/
theorem below1 (w : World) (o : Obj) : Below w.heap.size w (w.alloc o) := (Below.refl _ _).alloc (Nat.le_refl _) _
theorem below2 (w : World) (o o' : Obj) : Below w.heap.size w ((w.alloc o).alloc o') := ((Below.refl _ _).alloc (Nat.le_refl _) _).alloc (by simp) _
theorem below3 (w : World) (o o' o'' : Obj) : Below w.heap.size w (((w.alloc o).alloc o').alloc o'') := (below2 w o o').alloc (by simp; omega) _
theorem lt_below {w w' : World} {B : Nat} (h : Below B w w') {S : Nat → Prop} (hS : ∀ b, S b → b < w.heap.size) : ∀ b, S b → b < w'.heap.size := fun b hb => Nat.lt_of_lt_of_le (hS b hb) h.size
end Go.Gj
