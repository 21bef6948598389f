/-
  A result's cell of a struct: what it holds after calls, and after it has been set.
-/
import Derived.Test.YtnlndpgbhmkanaaGreatDoorWFromA
namespace Go.Gj
open Go Go.RowKit Go.Proofs

theorem Box.f {w : World} {B : Nat} {k h : Int} {t : ByteArray} {s1 s2 s3 : Value} (hb : Box w B k h t s1 s2 s3) (o : Nat) : w.frozen? ⟨B, o, none⟩ = false := by
  unfold Box at hb; simp [World.frozen?, hb]

/-- The world with a record set, cell by cell. -/
def set6 (w : World) (b : Nat) (c0 c1 c2 c3 c4 c5 : Value) : World :=
  (((((w.setCell ⟨b, 0, none⟩ c0).setCell ⟨b, 1, none⟩ c1).setCell ⟨b, 2, none⟩ c2).setCell ⟨b, 3, none⟩ c3).setCell ⟨b, 4, none⟩ c4).setCell ⟨b, 5, none⟩ c5

theorem below_set6 {B b : Nat} {w : World} (h : B ≤ b) (c0 c1 c2 c3 c4 c5 : Value) : Below B w (set6 w b c0 c1 c2 c3 c4 c5) :=
  ((((((Below.refl B w).setCell (p := ⟨b, 0, none⟩) h c0).setCell (p := ⟨b, 1, none⟩) h c1).setCell (p := ⟨b, 2, none⟩) h c2).setCell (p := ⟨b, 3, none⟩) h c3).setCell (p := ⟨b, 4, none⟩) h c4).setCell (p := ⟨b, 5, none⟩) h c5
theorem set6_other {b : Nat} {w : World} (c0 c1 c2 c3 c4 c5 : Value) (k : Nat) (hk : k ≠ b) : (set6 w b c0 c1 c2 c3 c4 c5).heap[k]? = w.heap[k]? := by
  unfold set6
  rw [Below.heap_setCell _ _ _ _ hk, Below.heap_setCell _ _ _ _ hk, Below.heap_setCell _ _ _ _ hk, Below.heap_setCell _ _ _ _ hk, Below.heap_setCell _ _ _ _ hk, Below.heap_setCell _ _ _ _ hk]
theorem set6_size {b : Nat} {w : World} (c0 c1 c2 c3 c4 c5 : Value) : (set6 w b c0 c1 c2 c3 c4 c5).heap.size = w.heap.size := by simp [set6, World.setCell]
theorem set6_box {b : Nat} {w : World} {k h : Int} {t : ByteArray} {s1 s2 s3 : Value} (hb : Box w b k h t s1 s2 s3) {k' h' : Int} {t' : ByteArray} {r1 r2 r3 : Value} :
    Box (set6 w b (.int .i64 k') (.int .i64 h') (.string t') r1 r2 r3) b k' h' t' r1 r2 r3 := by
  unfold Box at hb ⊢
  simp [set6, World.setCell, Array.getElem?_modify, hb]
end Go.Gj
