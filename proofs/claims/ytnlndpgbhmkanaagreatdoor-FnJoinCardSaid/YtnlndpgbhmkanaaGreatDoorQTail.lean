/-
  A region that draws its order: all but its tail only read; the tail stands in one order. (Over the kit's still walk, by the kit's quiet steps.)
-/
import Derived.Test.YtnlndpgbhmkanaaGreatDoorKitX
namespace Go
section
variable {P : Program} {ops : Array Oper} {w : World}

theorem still_of_quiet {o : Oper} {a : Act} {K K' : Act → Prop} (hK : ∀ a, K a → K' a) (h : o.quiet P a (fun w' => w' = w) K) : o.still P a w K' := by
  obtain ⟨v, h1, h2⟩ := h
  have h1 := h1 w rfl
  unfold Oper.still
  unfold Oper.quietAt at h1
  generalize (execOp a.eval o).run P w = r at h1 ⊢
  cases r with
  | ok n w' =>
    cases n <;> simp only [Oper.quietUpon] at h1 <;> simp only [Oper.stillUpon]
    · obtain ⟨h3, rfl⟩ := h1; exact ⟨h3, hK _ h2⟩
    · obtain ⟨h3, rfl⟩ := h1; exact ⟨h3, hK _ h2⟩
    · obtain ⟨h3, h4⟩ := h1; exact ⟨h3, v, h4, hK _ h2⟩
  | halt h w' => simp only [Oper.quietUpon] at h1

theorem wpStill_of_quiet {Q : Act → Prop} : ∀ (l : List Oper) (a : Act), wpQuiet P ops (fun w' => w' = w) Q l a → wpStill P ops w Q l a
  | [], _, h => h
  | o :: rest, a, h => by
    unfold wpQuiet at h
    unfold wpStill
    split
    · rename_i hw; rw [if_pos hw] at h; exact still_of_quiet (fun a => wpStill_of_quiet rest a) h
    · rename_i hw; rw [if_neg hw] at h; exact wpStill_of_quiet rest _ h

theorem wp_region_quiet_tail {id : Nat} {Q : Exit → Act → World → Prop} {a : Act} {w : World} {l : List Oper} (n : Nat) (hm : P.follows .mixedOrders = true) (hB : Region.lexTailB .any l.toArray n = true)
    (h : wpQuiet P l.toArray (fun w' => w' = w.drew) (fun a' => wpList P l.toArray Q (l.drop n) a' w.drew) (l.take n) a) : (Code.region id l.toArray true).wp P Q a w :=
  wp_region_still_tail n hm hB (wpStill_of_quiet _ _ h)
end
end Go
