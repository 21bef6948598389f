/-
  The tables of unicode/utf8, and ValidString by the shelf.
-/
import Derived.Test.YtnlndpgbhmkanaaGreatDoorKitX
import Derived.Shelf.Unicode.ValidAny
import Derived.Ground.NamesProg
namespace Go.Proofs
open Go.RowKit Go.Shelf Go.Lib
def Tryz.laysValid_ren : Go.Shelf.Ren := ⟨fun | 196 => 39 | 259 => 69 | n => n, fun | 9 => 9 | 4 => 4 | 3 => 3 | 5 => 5 | 12 => 12 | 119 => 69 | 0 => 0 | 46 => 73 | 139 => 72 | 138 => 71 | 53 => 94 | n => n, fun | 3 => 0 | 4 => 1 | n => n⟩
theorem Tryz.laysValid : Go.Proofs.Lays.n196 Tryz.prog Tryz.laysValid_ren := {
  mixed := by kernel_rfl
  f196 := Tryz.func39.trans (congrArg some (by kernel_rfl))
  f259 := Tryz.func69.trans (congrArg some (by kernel_rfl))
  t0 := Tryz.underlying0
  a0 := Tryz.isAgg0
  z0 := Tryz.sizeOf0
  v0 := Tryz.zeroValue0
  t3 := Tryz.underlying3
  a3 := Tryz.isAgg3
  z3 := Tryz.sizeOf3
  v3 := Tryz.zeroValue3
  t4 := Tryz.underlying4
  a4 := Tryz.isAgg4
  z4 := Tryz.sizeOf4
  v4 := Tryz.zeroValue4
  t5 := Tryz.underlying5
  a5 := Tryz.isAgg5
  z5 := Tryz.sizeOf5
  v5 := Tryz.zeroValue5
  t9 := Tryz.underlying9
  a9 := Tryz.isAgg9
  z9 := Tryz.sizeOf9
  v9 := Tryz.zeroValue9
  t12 := Tryz.underlying12
  a12 := Tryz.isAgg12
  z12 := Tryz.sizeOf12
  v12 := Tryz.zeroValue12
  t46 := Tryz.underlying73
  a46 := Tryz.isAgg73
  z46 := Tryz.sizeOf73
  v46 := Tryz.zeroValue73
  t53 := Tryz.underlying94
  a53 := Tryz.isAgg94
  z53 := Tryz.sizeOf94
  v53 := Tryz.zeroValue94
  t119 := Tryz.underlying69
  a119 := Tryz.isAgg69
  z119 := Tryz.sizeOf69
  t138 := Tryz.underlying71
  a138 := Tryz.isAgg71
  z138 := Tryz.sizeOf71
  v138 := Tryz.zeroValue71
  t139 := Tryz.underlying72
  a139 := Tryz.isAgg72
  z139 := Tryz.sizeOf72
  v139 := Tryz.zeroValue72
  g3 := by kernel_rfl
  g4 := by kernel_rfl }
end Go.Proofs
namespace Go.Gj
open Go Go.RowKit Go.Proofs Go.Shelf

def Tabs (w : World) : Prop := Lib.Utf8Tabs 0 1 w
theorem valid_ok (s : ByteArray) (w : World) (hT : Tabs w) (hs : s.size ≤ mostLen) :
    Calls Tryz.prog 39 #[.string s] w fun e w' => ∃ r, e = .returned (.bool r) ∧ Below w.heap.size w w' := by
  have cV : Calls Tryz.prog 39 #[.string s] w _ := Any.utf8_ValidString Tryz.laysValid s w (by unfold mostLen at hs; omega) hT
  exact cV.mono fun e w' h => ⟨_, h.1, h.2⟩
theorem Tabs.lt {w : World} (h : Tabs w) : 2 ≤ w.heap.size :=
  World.block_lt_of_cell? w _ (h.2 0 (by decide)).1
theorem Tabs.of {w w' : World} (h : Tabs w) (h0 : w'.heap[0]? = w.heap[0]?) (h1 : w'.heap[1]? = w.heap[1]?) : Tabs w' :=
  ⟨fun c hc => (World.cell?_of_block (w := w) (a := ⟨0, c, none⟩) h0).trans (h.1 c hc), fun i hi => ⟨(World.cell?_of_block (w := w) (a := ⟨1, 2 * i, none⟩) h1).trans (h.2 i hi).1, (World.cell?_of_block (w := w) (a := ⟨1, 2 * i + 1, none⟩) h1).trans (h.2 i hi).2⟩⟩
theorem Tabs.below {w w' : World} (h : Tabs w) (hb : Below w.heap.size w w') : Tabs w' :=
  h.of (hb.block 0 (by have := h.lt; omega)) (hb.block 1 (by have := h.lt; omega))
end Go.Gj
