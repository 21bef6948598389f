/-
  What holds while impl.mapFromGo builds its two rows.
-/
import Derived.Test.YtnlndpgbhmkanaaGreatDoorWFromL
import Derived.Test.YtnlndpgbhmkanaaGreatDoorKeysL
namespace Go.Gj
set_option linter.unusedSimpArgs false
set_option linter.unusedVariables false
set_option linter.unnecessarySimpa false
open Go Go.RowKit Go.Proofs

def beside2 (m : Nat) (kv v : Value) (w : World) : Nat → Prop := fun b => m ≤ b ∧ b < w.heap.size ∧ kv.ownBlock ≠ some b ∧ v.ownBlock ≠ some b

structure MInv (w : World) (m : Nat) (wr : World) (ks : List ByteArray) (vs : List J) (k : Nat) (kv v : Value) (xs : List Value) : Prop where
  bel : Below w.heap.size w wr
  out : Box wr w.heap.size 0 0 ⟨#[]⟩ (.slice none 0 0) (.slice none 0 0) (.slice none 0 0)
  box : Box wr (w.heap.size + 1) 6 0 ⟨#[]⟩ (.slice none 0 0) kv v
  kown : wr.ownsRow m 9 1 kv k ((ks.take k).map Value.string)
  own : wr.ownsRow m 26 6 v k xs
  apart : ∀ b, kv.ownBlock = some b → v.ownBlock ≠ some b
  flat : Flat wr (beside2 m kv v wr) (vs.take k) xs
  size : m ≤ wr.heap.size
  low : w.heap.size + 2 ≤ m

theorem MInv.over {w wr wr' : World} {m : Nat} {ks : List ByteArray} {vs : List J} {k : Nat} {kv v : Value} {xs : List Value} (h : MInv w m wr ks vs k kv v xs) (hb : Below wr.heap.size wr wr') : MInv w m wr' ks vs k kv v xs where
  bel := h.bel.trans (hb.mono h.bel.size)
  out := (hb.block _ (by have := h.size; have := h.low; omega)).trans h.out
  box := (hb.block _ (by have := h.size; have := h.low; omega)).trans h.box
  kown := own_below h.kown hb
  own := own_below h.own hb
  apart := h.apart
  flat := h.flat.keep (.of_below hb fun _ h => h.2.1) (fun _ h => ⟨h.1, Nat.lt_of_lt_of_le h.2.1 hb.size, h.2.2⟩)
  size := Nat.le_trans h.size hb.size
  low := h.low

theorem MInv.app {w wr Wa w3 Wb w5 : World} {m : Nat} {ks : List ByteArray} {vs : List J} {k : Nat} {kv v : Value} {xs : List Value} (h : MInv w m wr ks vs k kv v xs) (hk : k < ks.length) (hv : k < vs.length)
    {c0 c1 c2 c3 c4 c5 : Value} (hj : JRep wr (beside2 m kv v wr) vs[k] (.agg #[c0, c1, c2, c3, c4, c5])) (ha : Below wr.heap.size wr Wa)
    {g cap : Nat} (hown1 : w3.ownsRow m 9 1 (.slice (some ⟨g, 0, none⟩) (k + 1) cap) (k + 1) ((ks.take k).map Value.string ++ [.string ks[k]])) (hgrow1 : Wa.grownBy w3 kv.ownBlock) (hat1 : kv.ownBlock = some g ∨ g = Wa.heap.size) (hg1 : g < w3.heap.size)
    (hb : Below w3.heap.size w3 Wb)
    {g2 cap2 : Nat} (hown2 : w5.ownsRow m 26 6 (.slice (some ⟨g2, 0, none⟩) (k + 1) cap2) (k + 1) (xs ++ [c0, c1, c2, c3, c4, c5])) (hgrow2 : Wb.grownBy w5 v.ownBlock) (hat2 : v.ownBlock = some g2 ∨ g2 = Wb.heap.size) :
    MInv w m ((w5.setCell ⟨w.heap.size + 1, 4, none⟩ (.slice (some ⟨g, 0, none⟩) (k + 1) cap)).setCell ⟨w.heap.size + 1, 5, none⟩ (.slice (some ⟨g2, 0, none⟩) (k + 1) cap2)) ks vs (k + 1) (.slice (some ⟨g, 0, none⟩) (k + 1) cap) (.slice (some ⟨g2, 0, none⟩) (k + 1) cap2) (xs ++ [c0, c1, c2, c3, c4, c5]) := by
  have hsz := h.size
  have hlow := h.low
  have hkb := h.kown.lt
  have hvb := h.own.lt
  have hmg : m ≤ g := (hown1.lt g rfl).1
  have hmg2 : m ≤ g2 := (hown2.lt g2 rfl).1
  have s1 := ha.size
  have s2 := hgrow1.size
  have s3 := hb.size
  have s4 := hgrow2.size
  -- an old block beside both rows
  have hold : ∀ b, b < wr.heap.size → kv.ownBlock ≠ some b → v.ownBlock ≠ some b → w5.heap[b]? = wr.heap[b]? := fun b hlt h1 h2 => by
    rw [hgrow2.block b (by omega) (fun e => h2 e.symm), hb.block b (by omega), hgrow1.block b (by omega) (fun e => h1 e.symm), ha.block b hlt]
  have hlo : ∀ b, b < m → w5.heap[b]? = wr.heap[b]? := fun b hlt => hold b (by omega) (fun e => by have := (hkb b e).1; omega) (fun e => by have := (hvb b e).1; omega)
  have hgv : v.ownBlock ≠ some g := fun e => by
    rcases hat1 with h1 | h1
    · exact h.apart g h1 e
    · have := (hvb g e).2; omega
  have hgg : g ≠ g2 := fun e => by
    subst e
    rcases hat2 with h1 | h1
    · exact hgv h1
    · omega
  have hset : ∀ b, b ≠ w.heap.size + 1 → ((w5.setCell ⟨w.heap.size + 1, 4, none⟩ (.slice (some ⟨g, 0, none⟩) (k + 1) cap)).setCell ⟨w.heap.size + 1, 5, none⟩ (.slice (some ⟨g2, 0, none⟩) (k + 1) cap2)).heap[b]? = w5.heap[b]? := fun b hne => by
    rw [Below.heap_setCell _ _ _ _ hne, Below.heap_setCell _ _ _ _ hne]
  have hssz : ((w5.setCell ⟨w.heap.size + 1, 4, none⟩ (.slice (some ⟨g, 0, none⟩) (k + 1) cap)).setCell ⟨w.heap.size + 1, 5, none⟩ (.slice (some ⟨g2, 0, none⟩) (k + 1) cap2)).heap.size = w5.heap.size := by simp [World.setCell]
  have hsame : Same (beside2 m kv v wr) wr ((w5.setCell ⟨w.heap.size + 1, 4, none⟩ (.slice (some ⟨g, 0, none⟩) (k + 1) cap)).setCell ⟨w.heap.size + 1, 5, none⟩ (.slice (some ⟨g2, 0, none⟩) (k + 1) cap2)) := fun b hb => by
    rw [hset b (by have := hb.1; omega)]; exact hold b hb.2.1 hb.2.2.1 hb.2.2.2
  have hS : ∀ b, beside2 m kv v wr b → beside2 m (.slice (some ⟨g, 0, none⟩) (k + 1) cap) (.slice (some ⟨g2, 0, none⟩) (k + 1) cap2) ((w5.setCell ⟨w.heap.size + 1, 4, none⟩ (.slice (some ⟨g, 0, none⟩) (k + 1) cap)).setCell ⟨w.heap.size + 1, 5, none⟩ (.slice (some ⟨g2, 0, none⟩) (k + 1) cap2)) b := fun b hb =>
    ⟨hb.1, by rw [hssz]; have := hb.2.1; omega, fun e => by
      have e : g = b := by simpa [Value.ownBlock] using e
      subst e
      rcases hat1 with hat | hat
      · exact hb.2.2.1 hat
      · have := hb.2.1; omega, fun e => by
      have e : g2 = b := by simpa [Value.ownBlock] using e
      subst e
      rcases hat2 with hat | hat
      · exact hb.2.2.2 hat
      · have := hb.2.1; omega⟩
  have b1 : Below w.heap.size w Wa := h.bel.trans (ha.mono h.bel.size)
  have b2 : Below w.heap.size w w3 := b1.grown hgrow1 b1.size fun k hk => by have := (hkb _ hk).1; omega
  have b3 : Below w.heap.size w Wb := b2.trans (hb.mono b2.size)
  have b4 : Below w.heap.size w w5 := b3.grown hgrow2 b3.size fun k hk => by have := (hvb _ hk).1; omega
  refine ⟨(b4.setCell (Nat.le_succ _) _).setCell (Nat.le_succ _) _, ?_, ?_, ?_, ?_, ?_, ?_, by rw [hssz]; omega, hlow⟩
  · unfold Box; rw [hset _ (by omega), hlo _ (by omega)]; exact h.out
  · have := h.box
    unfold Box at this ⊢
    rw [← hlo _ (by omega)] at this
    simp [World.setCell, Array.getElem?_modify, this]
  · rw [List.take_succ_eq_append_getElem hk, List.map_append]
    refine ownsRow_setCell_below (ownsRow_setCell_below ?_ (by show w.heap.size + 1 < m; omega) _) (by show w.heap.size + 1 < m; omega) _
    exact (own_below hown1 hb).kept hgrow2 (.inr (by intro e; exact hgv e.symm))
  · exact ownsRow_setCell_below (ownsRow_setCell_below hown2 (by show w.heap.size + 1 < m; omega) _) (by show w.heap.size + 1 < m; omega) _
  · intro b hb e
    have e1 : g = b := by simpa [Value.ownBlock] using hb
    have e2 : g2 = b := by simpa [Value.ownBlock] using e
    exact hgg (e1.trans e2.symm)
  · rw [List.take_succ_eq_append_getElem hv]
    exact Flat.snoc (hj.keep hsame hS) _ _ (h.flat.keep hsame hS)
theorem below_alloc' {a w : World} (h : Below a.heap.size a w) (o : Obj) : Below a.heap.size a (w.alloc o) := h.alloc h.size o

theorem MInv.app_lo {w wr Wa w3 Wb w5 : World} {m : Nat} {ks : List ByteArray} {vs : List J} {k : Nat} {kv v : Value} {xs : List Value} (h : MInv w m wr ks vs k kv v xs) (ha : Below wr.heap.size wr Wa)
    (hgrow1 : Wa.grownBy w3 kv.ownBlock) (hb : Below w3.heap.size w3 Wb) (hgrow2 : Wb.grownBy w5 v.ownBlock) (c d : Value) (b : Nat) (h1 : w.heap.size + 2 ≤ b) (h2 : b < m) : ((w5.setCell ⟨w.heap.size + 1, 4, none⟩ c).setCell ⟨w.heap.size + 1, 5, none⟩ d).heap[b]? = wr.heap[b]? := by
  have s0 := h.size
  have s1 := ha.size
  have s2 := hgrow1.size
  have s3 := hb.size
  rw [Below.heap_setCell _ _ _ _ (by show b ≠ w.heap.size + 1; omega), Below.heap_setCell _ _ _ _ (by show b ≠ w.heap.size + 1; omega)]
  rw [hgrow2.block b (by omega) (fun e => by have := (h.own.lt _ e.symm).1; omega), hb.block b (by omega), hgrow1.block b (by omega) (fun e => by have := (h.kown.lt _ e.symm).1; omega), ha.block b (by omega)]
end Go.Gj
