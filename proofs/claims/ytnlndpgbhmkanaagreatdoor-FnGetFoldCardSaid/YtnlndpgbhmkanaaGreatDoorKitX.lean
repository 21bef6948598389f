import Derived.Test.YtnlndpgbhmkanaaGreatDoorProg
import Derived.WalkKit
import Derived.WalkLawsBesides
import Derived.WalkSpells
import Derived.Outline
import Derived.StillTailTactics
import Derived.Deep.LoopGhost
import Derived.Deep.RegionWith
import Derived.Deep.QuietTactic
import Derived.Deep.DeepFit
import Derived.BigQuiet
import Derived.BigGuardPart
import Derived.Deep.DeepCutAuto
import Derived.Deep.CutBlock
import Derived.Lib.Hide
import Derived.Test.YtnlndpgbhmkanaaGreatDoorRepB
namespace Go.Gj
open Go.RowKit

/-- The world with two boxes more. -/
theorem below1 (w : World) (o : Obj) : Below w.heap.size w (w.alloc o) := (Below.refl _ _).alloc (Nat.le_refl _) _
theorem below2 (w : World) (o o' : Obj) : Below w.heap.size w ((w.alloc o).alloc o') := ((Below.refl _ _).alloc (Nat.le_refl _) _).alloc (by simp) _
theorem below3 (w : World) (o o' o'' : Obj) : Below w.heap.size w (((w.alloc o).alloc o').alloc o'') := (below2 w o o').alloc (by simp; omega) _
theorem lt_below {w w' : World} {B : Nat} (h : Below B w w') {S : Nat → Prop} (hS : ∀ b, S b → b < w.heap.size) : ∀ b, S b → b < w'.heap.size := fun b hb => Nat.lt_of_lt_of_le (hS b hb) h.size
end Go.Gj
