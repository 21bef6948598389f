/-
  A region that draws its order, of which what is left has one order alone.
-/
import Derived.Test.YtnlndpgbhmkanaaGreatDoorKitX
namespace Go.Gj
set_option linter.unusedSimpArgs false
set_option linter.unusedVariables false
set_option linter.unnecessarySimpa false
open Go

theorem wpAny_rest {P : Program} {md : Region.Mode} {l : List Oper} {Q : Exit → Act → World → Prop} (k : Nat) {fuel : Nat} {listed : Array Bool} {a : Act} {w : World} (hf : fuel = (l.drop k).length) (hB : Region.seqB md l.toArray fuel k listed = true)
    (h : wpList P l.toArray Q (l.drop k) a w) : wpAny P md l.toArray Q fuel listed a w := by
  subst hf
  exact wpAny_of_seq (l.drop k) k listed a w (fun j => by simp [List.getElem?_drop]) hB h
end Go.Gj
