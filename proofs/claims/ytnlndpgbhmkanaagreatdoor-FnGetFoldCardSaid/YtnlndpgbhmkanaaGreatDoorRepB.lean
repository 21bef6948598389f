/-
  A record impl.Value that stands for a value of JSON, opened.
-/
import Derived.Test.YtnlndpgbhmkanaaGreatDoorPlB
import Derived.Test.YtnlndpgbhmkanaaGreatDoorRepA
namespace Go.Gj
open Go.RowKit

/-- A record that stands for a value of JSON. -/
def JRep (w : World) (S : Nat → Prop) (x : J) (v : Value) : Prop := VRep w S x.toV v

/-- A slice of such records; of strings. -/
def JSl (w : World) (S : Nat → Prop) (l : List J) (v : Value) : Prop := SlOf S l.length (fun b o => VCells w S b (J.toVs l) o) v
def KSl (w : World) (S : Nat → Prop) (ks : List ByteArray) (v : Value) : Prop := SlOf S ks.length (fun b o => KCells w b ks o) v

theorem JRep.parts {w : World} {S : Nat → Prop} {x : J} {v : Value} (h : JRep w S x v) :
    ∃ s1 s2 s3, v = .agg #[.int .i64 x.kind, .int .i64 x.half, .string x.text, s1, s2, s3] ∧ x.text.size ≤ mostLen ∧ JSl w S x.list s1 ∧ KSl w S x.keys s2 ∧ JSl w S x.vals s3 := by
  unfold JRep at h
  rw [toV_eq] at h
  obtain ⟨s1, s2, s3, hv, ht, _, _, h1, h2, h3⟩ := h
  rw [toVs_length] at h1 h3
  exact ⟨s1, s2, s3, hv, ht, h1, h2, h3⟩

theorem JRep.keep {w w' : World} {S S' : Nat → Prop} {x : J} {v : Value} (h : JRep w S x v) (hs : Same S w w') (hS : ∀ b, S b → S' b) : JRep w' S' x v := VRep.keep hs hS _ _ h
theorem JSl.keep {w w' : World} {S S' : Nat → Prop} {l : List J} {v : Value} (h : JSl w S l v) (hs : Same S w w') (hS : ∀ b, S b → S' b) : JSl w' S' l v :=
  SlOf.keep h hS fun b o hb hq => VCells.keep hs hS b hb _ o hq
theorem KSl.keep {w w' : World} {S S' : Nat → Prop} {l : List ByteArray} {v : Value} (h : KSl w S l v) (hs : Same S w w') (hS : ∀ b, S b → S' b) : KSl w' S' l v :=
  SlOf.keep h hS fun _ o hb hq => KCells.keep (fun _ => hs.cell hb) _ o hq

/-- Over new blocks. -/
theorem JRep.below {w w' : World} {S : Nat → Prop} {x : J} {v : Value} (h : JRep w S x v) {B : Nat} (hb : Below B w w') (hS : ∀ b, S b → b < B) : JRep w' S x v := h.keep (.of_below hb hS) fun _ h => h
theorem JSl.below {w w' : World} {S : Nat → Prop} {l : List J} {v : Value} (h : JSl w S l v) {B : Nat} (hb : Below B w w') (hS : ∀ b, S b → b < B) : JSl w' S l v := h.keep (.of_below hb hS) fun _ h => h
theorem KSl.below {w w' : World} {S : Nat → Prop} {l : List ByteArray} {v : Value} (h : KSl w S l v) {B : Nat} (hb : Below B w w') (hS : ∀ b, S b → b < B) : KSl w' S l v := h.keep (.of_below hb hS) fun _ h => h

/-- The element at a place. -/
theorem JSl.at {w : World} {S : Nat → Prop} {l : List J} {v : Value} (h : JSl w S l v) : ∃ a c, v = .slice a l.length c ∧ l.length ≤ mostLen ∧ ∀ i (hi : i < l.length), ∃ b o, a = some ⟨b, o, none⟩ ∧ S b ∧
    ∃ c0 c1 c2 c3 c4 c5, w.cell? ⟨b, o + i * 6, none⟩ = some c0 ∧ w.cell? ⟨b, o + i * 6 + 1, none⟩ = some c1 ∧ w.cell? ⟨b, o + i * 6 + 2, none⟩ = some c2 ∧
      w.cell? ⟨b, o + i * 6 + 3, none⟩ = some c3 ∧ w.cell? ⟨b, o + i * 6 + 4, none⟩ = some c4 ∧ w.cell? ⟨b, o + i * 6 + 5, none⟩ = some c5 ∧ JRep w S l[i] (.agg #[c0, c1, c2, c3, c4, c5]) := by
  obtain ⟨a, c, hv, hn, h⟩ := h
  refine ⟨a, c, hv, hn, fun i hi => ?_⟩
  obtain ⟨b, o, ha, hb, hq⟩ := h.resolve_left (by omega)
  refine ⟨b, o, ha, hb, ?_⟩
  obtain ⟨c0, c1, c2, c3, c4, c5, h0, h1, h2, h3, h4, h5, hr⟩ := VCells.at _ o i (by rw [toVs_length]; exact hi) hq
  have e : (J.toVs l)[i]'(by rw [toVs_length]; exact hi) = l[i].toV := by simp [toVs_eq_map]
  rw [e] at hr
  exact ⟨c0, c1, c2, c3, c4, c5, h0, h1, h2, h3, h4, h5, hr⟩

theorem KSl.at {w : World} {S : Nat → Prop} {l : List ByteArray} {v : Value} (h : KSl w S l v) : ∃ a c, v = .slice a l.length c ∧ l.length ≤ mostLen ∧ ∀ i (hi : i < l.length), ∃ b o, a = some ⟨b, o, none⟩ ∧ S b ∧
    w.cell? ⟨b, o + i, none⟩ = some (.string l[i]) ∧ l[i].size ≤ mostLen := by
  obtain ⟨a, c, hv, hn, h⟩ := h
  refine ⟨a, c, hv, hn, fun i hi => ?_⟩
  obtain ⟨b, o, ha, hb, hq⟩ := h.resolve_left (by omega)
  exact ⟨b, o, ha, hb, KCells.at l o i hi hq⟩
end Go.Gj
