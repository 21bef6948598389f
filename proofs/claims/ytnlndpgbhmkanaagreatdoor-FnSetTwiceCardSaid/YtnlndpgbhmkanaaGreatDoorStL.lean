/-
  Two answers set at one path, kept in two boxes: what is known between the steps, in whatever order these come.
-/
import Derived.Test.YtnlndpgbhmkanaaGreatDoorLawGF
import Derived.Test.YtnlndpgbhmkanaaGreatDoorPlS
import Derived.Test.YtnlndpgbhmkanaaGreatDoorPlH
import Derived.Test.YtnlndpgbhmkanaaGreatDoorWDoorS
import Derived.Test.YtnlndpgbhmkanaaGreatDoorRegT
namespace Go.Gj
set_option linter.unusedSimpArgs false
set_option linter.unusedVariables false
set_option linter.unnecessarySimpa false
open Go Go.RowKit Go.Proofs

theorem SetPath_use (x z : J) (p : List J) (hx : x.ok) (hp : (J.arr p).fit) (hk : ∀ k ∈ p, keyOk k) (hz : z.ok) (hsz : ∀ r, setJ x p z = some r → r.sz) (w1 : World) (S : Nat → Prop) (hS : ∀ b, S b → b < w1.heap.size) (va vb vc : Value) (ha : JRep w1 S x va) (hb : JRep w1 S (.arr p) vb) (hc : JRep w1 S z vc) :
    Calls Tryz.prog 30 #[va, vb, vc] w1 (AnsRes w1 (setJ x p z)) :=
  SetPath_door x (.arr p) z hx (fit_ok hp) hz (setJ x p z) (fun w2 g1 g2 g3 h1 h2 h3 => ZzSetPath_ok x z p hk hx hsz w2 g1 g2 g3 h1 h2 h3) w1 S hS va vb vc ha hb hc

theorem GetPath_use (x : J) (p : List J) (hx : x.ok) (hp : (J.arr p).fit) (hk : ∀ k ∈ p, keyOk k) (hl : p.length ≤ 20) (w1 : World) (S : Nat → Prop) (hS : ∀ b, S b → b < w1.heap.size) (va vb : Value) (ha : JRep w1 S x va) (hb : JRep w1 S (.arr p) vb) :
    Calls Tryz.prog 16 #[va, vb] w1 (AnsRes w1 (getJ x p)) :=
  GetPath_door x (.arr p) hx (fit_ok hp) (getJ x p) (fun w2 g1 g2 h1 h2 => ZzGetPath_ok x p hk hx (by omega) w2 g1 g2 h1 h2) w1 S hS va vb ha hb

/-- The empty answer's box. -/
def BX (n : Nat) (w : World) (B : Nat) : Prop := n ≤ B ∧ B < w.heap.size ∧ Box7 w B 0 0 ⟨#[]⟩ (.slice none 0 0) (.slice none 0 0) (.slice none 0 0) 0
def RZ : Obj := .cells #[.int .i64 0, .int .i64 0, .string ⟨#[]⟩, .slice none 0 0, .slice none 0 0, .slice none 0 0, .int .i64 0] 35
theorem BX.step {n : Nat} {w w' : World} {B : Nat} (h : BX n w B) (hx : Below w.heap.size w w') : BX n w' B := ⟨h.1, Nat.lt_of_lt_of_le h.2.1 hx.size, (hx.block B h.2.1).trans h.2.2⟩
theorem BX.new {n : Nat} {w : World} (hn : n ≤ w.heap.size) : BX n (w.alloc RZ) w.heap.size := ⟨hn, by rw [size_alloc]; omega, Box7.new w _ _ _ _ _ _ _⟩

def JX (w : World) (o9 o10 : Option Nat) (z : J) (v : Value) : Prop := ∃ S : Nat → Prop, JRep w S z v ∧ (∀ b, S b → b < w.heap.size) ∧ (∀ B, o9 = some B → ¬ S B) ∧ (∀ B, o10 = some B → ¬ S B)
theorem JX.step {w w' : World} {o9 o10 : Option Nat} {z : J} {v : Value} (h : JX w o9 o10 z v) (hx : Below w.heap.size w w') : JX w' o9 o10 z v := by
  obtain ⟨S, h1, h2, h3, h4⟩ := h
  exact ⟨S, h1.keep (.of_below hx h2) (fun _ h => h), lt_below hx h2, h3, h4⟩

/-- What is known between the steps. -/
def St (W0 w : World) (o9 o10 : Option Nat) (j1 j2 : Option (J × Value)) : Prop :=
  Below W0.heap.size W0 w ∧ (∀ B, o9 = some B → BX W0.heap.size w B) ∧ (∀ B, o10 = some B → BX W0.heap.size w B) ∧ (∀ B B', o9 = some B → o10 = some B' → B ≠ B') ∧
    (∀ z v, j1 = some (z, v) → JX w o9 o10 z v) ∧ (∀ z v, j2 = some (z, v) → JX w o9 o10 z v)

theorem St.start (W0 : World) : St W0 W0.drew none none none none := ⟨(Below.refl _ _).drew, by simp, by simp, by simp, by simp, by simp⟩

theorem St.step {W0 w w' : World} {o9 o10 : Option Nat} {j1 j2 : Option (J × Value)} (h : St W0 w o9 o10 j1 j2) (hx : Below w.heap.size w w') : St W0 w' o9 o10 j1 j2 := by
  obtain ⟨hb, h9, h10, hne, h1, h2⟩ := h
  exact ⟨hb.trans (hx.mono hb.size), fun B e => (h9 B e).step hx, fun B e => (h10 B e).step hx, hne, fun z v e => (h1 z v e).step hx, fun z v e => (h2 z v e).step hx⟩

theorem St.alloc9 {W0 w : World} {o10 : Option Nat} {j1 j2 : Option (J × Value)} (h : St W0 w none o10 j1 j2) : St W0 (w.alloc RZ) (some w.heap.size) o10 j1 j2 := by
  obtain ⟨hb, h9, h10, hne, h1, h2⟩ := h
  have hx := below1 w RZ
  have jx : ∀ z v, JX w none o10 z v → JX (w.alloc RZ) (some w.heap.size) o10 z v := fun z v hj => by
    obtain ⟨S, g1, g2, g3, g4⟩ := hj
    refine ⟨S, g1.keep (.of_below hx g2) (fun _ h => h), lt_below hx g2, fun B e hs => ?_, g4⟩
    obtain rfl := Option.some.inj e
    exact Nat.lt_irrefl _ (g2 _ hs)
  refine ⟨hb.trans (hx.mono hb.size), fun B e => ?_, fun B e => (h10 B e).step hx, fun B B' e e' => ?_, fun z v e => jx z v (h1 z v e), fun z v e => jx z v (h2 z v e)⟩
  · obtain rfl := Option.some.inj e
    exact BX.new hb.size
  · obtain rfl := Option.some.inj e
    have := (h10 B' e').2.1
    omega

theorem St.swap {W0 w : World} {o9 o10 : Option Nat} {j1 j2 : Option (J × Value)} (h : St W0 w o9 o10 j1 j2) : St W0 w o10 o9 j1 j2 := by
  obtain ⟨hb, h9, h10, hne, h1, h2⟩ := h
  have jx : ∀ z v, JX w o9 o10 z v → JX w o10 o9 z v := fun z v hj => by
    obtain ⟨S, g1, g2, g3, g4⟩ := hj
    exact ⟨S, g1, g2, g4, g3⟩
  exact ⟨hb, h10, h9, fun B B' e e' => (hne B' B e' e).symm, fun z v e => jx z v (h1 z v e), fun z v e => jx z v (h2 z v e)⟩

theorem St.alloc10 {W0 w : World} {o9 : Option Nat} {j1 j2 : Option (J × Value)} (h : St W0 w o9 none j1 j2) : St W0 (w.alloc RZ) o9 (some w.heap.size) j1 j2 := h.swap.alloc9.swap

theorem St.turn {W0 w : World} {o9 o10 : Option Nat} {j1 j2 : Option (J × Value)} (h : St W0 w o9 o10 j1 j2) : St W0 w o9 o10 j2 j1 := by
  obtain ⟨hb, h9, h10, hne, h1, h2⟩ := h
  exact ⟨hb, h9, h10, hne, h2, h1⟩

theorem St.call1 {W0 w w' : World} {o9 o10 : Option Nat} {j2 : Option (J × Value)} {z : J} {v : Value} (h : St W0 w o9 o10 none j2) (hx : Below w.heap.size w w') (hj : JRep w' (since w.heap.size w') z v) : St W0 w' o9 o10 (some (z, v)) j2 := by
  obtain ⟨hb, h9, h10, hne, h1, h2⟩ := h.step hx
  obtain ⟨_, g9, g10, _, _, _⟩ := h
  refine ⟨hb, h9, h10, hne, fun z' v' e => ?_, h2⟩
  obtain ⟨rfl, rfl⟩ : z = z' ∧ v = v' := by simpa using e
  exact ⟨_, hj, fun b hb => hb.2, fun B e hs => by have := (g9 B e).2.1; have := hs.1; omega, fun B e hs => by have := (g10 B e).2.1; have := hs.1; omega⟩
theorem St.call2 {W0 w w' : World} {o9 o10 : Option Nat} {j1 : Option (J × Value)} {z : J} {v : Value} (h : St W0 w o9 o10 j1 none) (hx : Below w.heap.size w w') (hj : JRep w' (since w.heap.size w') z v) : St W0 w' o9 o10 j1 (some (z, v)) :=
  (h.turn.call1 hx hj).turn

/-- The cells of the two boxes, ahead of the stores. -/
theorem St.cells {W0 w : World} {B9 B10 : Nat} {j1 j2 : Option (J × Value)} (h : St W0 w (some B9) (some B10) j1 j2) :
    Box7 w B9 0 0 ⟨#[]⟩ (.slice none 0 0) (.slice none 0 0) (.slice none 0 0) 0 ∧ (∀ c0 c1 c2 c3 c4 c5 c6, Box7 (set7 w B9 c0 c1 c2 c3 c4 c5 c6) B10 0 0 ⟨#[]⟩ (.slice none 0 0) (.slice none 0 0) (.slice none 0 0) 0) :=
  ⟨(h.2.1 _ rfl).2.2, fun _ _ _ _ _ _ _ => (set7_other _ _ _ _ _ _ _ B10 (Ne.symm (h.2.2.2.1 _ _ rfl rfl))).trans (h.2.2.1 _ rfl).2.2⟩

def jcells (z : J) (q1 : Option Addr) (v1 : Nat) (q2 : Option Addr) (v2 : Nat) (q3 : Option Addr) (v3 : Nat) : Value := .agg #[.int .i64 z.kind, .int .i64 z.half, .string z.text, .slice q1 z.list.length v1, .slice q2 z.keys.length v2, .slice q3 z.vals.length v3]

/-- Behind both stores. -/
theorem St.fin {W0 w : World} {B9 B10 : Nat} {z z' : J} {q1 : Option Addr} {v1 : Nat} {q2 : Option Addr} {v2 : Nat} {q3 : Option Addr} {v3 : Nat} {q1' : Option Addr} {v1' : Nat} {q2' : Option Addr} {v2' : Nat} {q3' : Option Addr} {v3' : Nat} (en en' : Int)
    (h : St W0 w (some B9) (some B10) (some (z, jcells z q1 v1 q2 v2 q3 v3)) (some (z', jcells z' q1' v1' q2' v2' q3' v3'))) {wf : World}
    (hwf : wf = set7 (set7 w B9 (.int .i64 z.kind) (.int .i64 z.half) (.string z.text) (.slice q1 z.list.length v1) (.slice q2 z.keys.length v2) (.slice q3 z.vals.length v3) (.int .i64 en)) B10 (.int .i64 z'.kind) (.int .i64 z'.half) (.string z'.text) (.slice q1' z'.list.length v1') (.slice q2' z'.keys.length v2') (.slice q3' z'.vals.length v3') (.int .i64 en')) :
    Below W0.heap.size W0 wf ∧ Box7 wf B9 z.kind z.half z.text (.slice q1 z.list.length v1) (.slice q2 z.keys.length v2) (.slice q3 z.vals.length v3) en ∧ Box7 wf B10 z'.kind z'.half z'.text (.slice q1' z'.list.length v1') (.slice q2' z'.keys.length v2') (.slice q3' z'.vals.length v3') en' ∧
      JRep wf (allB wf) z (jcells z q1 v1 q2 v2 q3 v3) ∧ JRep wf (allB wf) z' (jcells z' q1' v1' q2' v2' q3' v3') := by
  obtain ⟨hb, h9, h10, hne, h1, h2⟩ := h
  have g9 := h9 _ rfl
  have g10 := h10 _ rfl
  have hn := hne _ _ rfl rfl
  subst hwf
  have jx : ∀ y v, JX w (some B9) (some B10) y v → JRep (set7 (set7 w B9 (.int .i64 z.kind) (.int .i64 z.half) (.string z.text) (.slice q1 z.list.length v1) (.slice q2 z.keys.length v2) (.slice q3 z.vals.length v3) (.int .i64 en)) B10 (.int .i64 z'.kind) (.int .i64 z'.half) (.string z'.text) (.slice q1' z'.list.length v1') (.slice q2' z'.keys.length v2') (.slice q3' z'.vals.length v3') (.int .i64 en')) (allB (set7 (set7 w B9 (.int .i64 z.kind) (.int .i64 z.half) (.string z.text) (.slice q1 z.list.length v1) (.slice q2 z.keys.length v2) (.slice q3 z.vals.length v3) (.int .i64 en)) B10 (.int .i64 z'.kind) (.int .i64 z'.half) (.string z'.text) (.slice q1' z'.list.length v1') (.slice q2' z'.keys.length v2') (.slice q3' z'.vals.length v3') (.int .i64 en'))) y v := fun y v hj => by
    obtain ⟨S, k1, k2, k3, k4⟩ := hj
    refine k1.keep (fun b hb => ?_) (fun b hb => ?_)
    · rw [set7_other _ _ _ _ _ _ _ b (fun e => by subst e; exact k4 _ rfl hb), set7_other _ _ _ _ _ _ _ b (fun e => by subst e; exact k3 _ rfl hb)]
    · unfold allB; rw [set7_size, set7_size]; exact k2 b hb
  exact ⟨(hb.trans (below_set7 g9.1 _ _ _ _ _ _ _)).trans (below_set7 g10.1 _ _ _ _ _ _ _), (set7_other _ _ _ _ _ _ _ B9 hn).trans (set7_box g9.2.2), set7_box ((set7_other _ _ _ _ _ _ _ B10 (Ne.symm hn)).trans g10.2.2), jx _ _ (h1 _ _ rfl), jx _ _ (h2 _ _ rfl)⟩
end Go.Gj
