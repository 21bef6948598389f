/-
  Two answers set at one path, kept in two boxes: what is known between the steps, in whatever order these come.
-/
import Derived.Test.YtnlndpgbhmkanaaGreatDoorLawGF
import Derived.Test.YtnlndpgbhmkanaaGreatDoorPlS
import Derived.Test.YtnlndpgbhmkanaaGreatDoorPlH
import Derived.Test.YtnlndpgbhmkanaaGreatDoorWDoorS
import Derived.Test.YtnlndpgbhmkanaaGreatDoorRegM
import Derived.Test.YtnlndpgbhmkanaaGreatDoorWDoorD
namespace Go.Gj
set_option linter.unusedSimpArgs false
set_option linter.unusedVariables false
set_option linter.unnecessarySimpa false
open Go Go.RowKit Go.Proofs

theorem SetPath_use (x z : J) (p : List J) (hx : x.ok) (hp : (J.arr p).fit) (hk : ∀ k ∈ p, keyOk k) (hz : z.ok) (hsz : ∀ r, setJ x p z = some r → r.sz) (w1 : World) (S : Nat → Prop) (hS : ∀ b, S b → b < w1.heap.size) (va vb vc : Value) (ha : JRep w1 S x va) (hb : JRep w1 S (.arr p) vb) (hc : JRep w1 S z vc) :
    Calls Tryz.prog 30 #[va, vb, vc] w1 (AnsRes w1 (setJ x p z)) :=
  SetPath_door x (.arr p) z hx (fit_ok hp) hz (setJ x p z) (fun w2 g1 g2 g3 h1 h2 h3 => ZzSetPath_ok x z p hk hx hsz w2 g1 g2 g3 h1 h2 h3) w1 S hS va vb vc ha hb hc

theorem GetPath_use (x : J) (p : List J) (hx : x.ok) (hp : (J.arr p).fit) (hk : ∀ k ∈ p, keyOk k) (hl : p.length ≤ 20) (w1 : World) (S : Nat → Prop) (hS : ∀ b, S b → b < w1.heap.size) (va vb : Value) (ha : JRep w1 S x va) (hb : JRep w1 S (.arr p) vb) :
    Calls Tryz.prog 16 #[va, vb] w1 (AnsRes w1 (getJ x p)) :=
  GetPath_door x (.arr p) hx (fit_ok hp) (getJ x p) (fun w2 g1 g2 h1 h2 => ZzGetPath_ok x p hk hx (by omega) w2 g1 g2 h1 h2) w1 S hS va vb ha hb

/-- The empty answer's box. -/
def BX (n : Nat) (w : World) (B : Nat) : Prop := n ≤ B ∧ B < w.heap.size ∧ Box7 w B 0 0 ⟨#[]⟩ (.slice none 0 0) (.slice none 0 0) (.slice none 0 0) 0
def RZ : Obj := .cells #[.int .i64 0, .int .i64 0, .string ⟨#[]⟩, .slice none 0 0, .slice none 0 0, .slice none 0 0, .int .i64 0] 35
theorem BX.step {n : Nat} {w w' : World} {B : Nat} (h : BX n w B) (hx : Below w.heap.size w w') : BX n w' B := ⟨h.1, Nat.lt_of_lt_of_le h.2.1 hx.size, (hx.block B h.2.1).trans h.2.2⟩
theorem BX.new {n : Nat} {w : World} (hn : n ≤ w.heap.size) : BX n (w.alloc RZ) w.heap.size := ⟨hn, by rw [size_alloc]; omega, Box7.new w _ _ _ _ _ _ _⟩

def JX (w : World) (o9 o10 : Option Nat) (z : J) (v : Value) : Prop := ∃ S : Nat → Prop, JRep w S z v ∧ (∀ b, S b → b < w.heap.size) ∧ (∀ B, o9 = some B → ¬ S B) ∧ (∀ B, o10 = some B → ¬ S B)
theorem JX.step {w w' : World} {o9 o10 : Option Nat} {z : J} {v : Value} (h : JX w o9 o10 z v) (hx : Below w.heap.size w w') : JX w' o9 o10 z v := by
  obtain ⟨S, h1, h2, h3, h4⟩ := h
  exact ⟨S, h1.keep (.of_below hx h2) (fun _ h => h), lt_below hx h2, h3, h4⟩

/-- What is known between the steps. -/
def St (W0 w : World) (o9 o10 : Option Nat) (j1 j2 : Option (J × Value)) : Prop :=
  Below W0.heap.size W0 w ∧ (∀ B, o9 = some B → BX W0.heap.size w B) ∧ (∀ B, o10 = some B → BX W0.heap.size w B) ∧ (∀ B B', o9 = some B → o10 = some B' → B ≠ B') ∧
    (∀ z v, j1 = some (z, v) → JX w o9 o10 z v) ∧ (∀ z v, j2 = some (z, v) → JX w o9 o10 z v)

theorem St.start (W0 : World) : St W0 W0.drew none none none none := ⟨(Below.refl _ _).drew, by simp, by simp, by simp, by simp, by simp⟩

theorem St.step {W0 w w' : World} {o9 o10 : Option Nat} {j1 j2 : Option (J × Value)} (h : St W0 w o9 o10 j1 j2) (hx : Below w.heap.size w w') : St W0 w' o9 o10 j1 j2 := by
  obtain ⟨hb, h9, h10, hne, h1, h2⟩ := h
  exact ⟨hb.trans (hx.mono hb.size), fun B e => (h9 B e).step hx, fun B e => (h10 B e).step hx, hne, fun z v e => (h1 z v e).step hx, fun z v e => (h2 z v e).step hx⟩

theorem St.alloc9 {W0 w : World} {o10 : Option Nat} {j1 j2 : Option (J × Value)} (h : St W0 w none o10 j1 j2) : St W0 (w.alloc RZ) (some w.heap.size) o10 j1 j2 := by
  obtain ⟨hb, h9, h10, hne, h1, h2⟩ := h
  have hx := below1 w RZ
  have jx : ∀ z v, JX w none o10 z v → JX (w.alloc RZ) (some w.heap.size) o10 z v := fun z v hj => by
    obtain ⟨S, g1, g2, g3, g4⟩ := hj
    refine ⟨S, g1.keep (.of_below hx g2) (fun _ h => h), lt_below hx g2, fun B e hs => ?_, g4⟩
    obtain rfl := Option.some.inj e
    exact Nat.lt_irrefl _ (g2 _ hs)
  refine ⟨hb.trans (hx.mono hb.size), fun B e => ?_, fun B e => (h10 B e).step hx, fun B B' e e' => ?_, fun z v e => jx z v (h1 z v e), fun z v e => jx z v (h2 z v e)⟩
  · obtain rfl := Option.some.inj e
    exact BX.new hb.size
  · obtain rfl := Option.some.inj e
    have := (h10 B' e').2.1
    omega

theorem St.swap {W0 w : World} {o9 o10 : Option Nat} {j1 j2 : Option (J × Value)} (h : St W0 w o9 o10 j1 j2) : St W0 w o10 o9 j1 j2 := by
  obtain ⟨hb, h9, h10, hne, h1, h2⟩ := h
  have jx : ∀ z v, JX w o9 o10 z v → JX w o10 o9 z v := fun z v hj => by
    obtain ⟨S, g1, g2, g3, g4⟩ := hj
    exact ⟨S, g1, g2, g4, g3⟩
  exact ⟨hb, h10, h9, fun B B' e e' => (hne B' B e' e).symm, fun z v e => jx z v (h1 z v e), fun z v e => jx z v (h2 z v e)⟩

theorem St.alloc10 {W0 w : World} {o9 : Option Nat} {j1 j2 : Option (J × Value)} (h : St W0 w o9 none j1 j2) : St W0 (w.alloc RZ) o9 (some w.heap.size) j1 j2 := h.swap.alloc9.swap

theorem St.turn {W0 w : World} {o9 o10 : Option Nat} {j1 j2 : Option (J × Value)} (h : St W0 w o9 o10 j1 j2) : St W0 w o9 o10 j2 j1 := by
  obtain ⟨hb, h9, h10, hne, h1, h2⟩ := h
  exact ⟨hb, h9, h10, hne, h2, h1⟩

theorem St.call1 {W0 w w' : World} {o9 o10 : Option Nat} {j2 : Option (J × Value)} {z : J} {v : Value} (h : St W0 w o9 o10 none j2) (hx : Below w.heap.size w w') (hj : JRep w' (since w.heap.size w') z v) : St W0 w' o9 o10 (some (z, v)) j2 := by
  obtain ⟨hb, h9, h10, hne, h1, h2⟩ := h.step hx
  obtain ⟨_, g9, g10, _, _, _⟩ := h
  refine ⟨hb, h9, h10, hne, fun z' v' e => ?_, h2⟩
  obtain ⟨rfl, rfl⟩ : z = z' ∧ v = v' := by simpa using e
  exact ⟨_, hj, fun b hb => hb.2, fun B e hs => by have := (g9 B e).2.1; have := hs.1; omega, fun B e hs => by have := (g10 B e).2.1; have := hs.1; omega⟩
theorem St.call2 {W0 w w' : World} {o9 o10 : Option Nat} {j1 : Option (J × Value)} {z : J} {v : Value} (h : St W0 w o9 o10 j1 none) (hx : Below w.heap.size w w') (hj : JRep w' (since w.heap.size w') z v) : St W0 w' o9 o10 j1 (some (z, v)) :=
  (h.turn.call1 hx hj).turn

/-- The cells of the two boxes, ahead of the stores. -/
theorem St.cells {W0 w : World} {B9 B10 : Nat} {j1 j2 : Option (J × Value)} (h : St W0 w (some B9) (some B10) j1 j2) :
    Box7 w B9 0 0 ⟨#[]⟩ (.slice none 0 0) (.slice none 0 0) (.slice none 0 0) 0 ∧ (∀ c0 c1 c2 c3 c4 c5 c6, Box7 (set7 w B9 c0 c1 c2 c3 c4 c5 c6) B10 0 0 ⟨#[]⟩ (.slice none 0 0) (.slice none 0 0) (.slice none 0 0) 0) :=
  ⟨(h.2.1 _ rfl).2.2, fun _ _ _ _ _ _ _ => (set7_other _ _ _ _ _ _ _ B10 (Ne.symm (h.2.2.2.1 _ _ rfl rfl))).trans (h.2.2.1 _ rfl).2.2⟩

def jcells (z : J) (q1 : Option Addr) (v1 : Nat) (q2 : Option Addr) (v2 : Nat) (q3 : Option Addr) (v3 : Nat) : Value := .agg #[.int .i64 z.kind, .int .i64 z.half, .string z.text, .slice q1 z.list.length v1, .slice q2 z.keys.length v2, .slice q3 z.vals.length v3]

/-- Behind both stores. -/
theorem St.fin {W0 w : World} {B9 B10 : Nat} {z z' : J} {q1 : Option Addr} {v1 : Nat} {q2 : Option Addr} {v2 : Nat} {q3 : Option Addr} {v3 : Nat} {q1' : Option Addr} {v1' : Nat} {q2' : Option Addr} {v2' : Nat} {q3' : Option Addr} {v3' : Nat} (en en' : Int)
    (h : St W0 w (some B9) (some B10) (some (z, jcells z q1 v1 q2 v2 q3 v3)) (some (z', jcells z' q1' v1' q2' v2' q3' v3'))) {wf : World}
    (hwf : wf = set7 (set7 w B9 (.int .i64 z.kind) (.int .i64 z.half) (.string z.text) (.slice q1 z.list.length v1) (.slice q2 z.keys.length v2) (.slice q3 z.vals.length v3) (.int .i64 en)) B10 (.int .i64 z'.kind) (.int .i64 z'.half) (.string z'.text) (.slice q1' z'.list.length v1') (.slice q2' z'.keys.length v2') (.slice q3' z'.vals.length v3') (.int .i64 en')) :
    Below W0.heap.size W0 wf ∧ Box7 wf B9 z.kind z.half z.text (.slice q1 z.list.length v1) (.slice q2 z.keys.length v2) (.slice q3 z.vals.length v3) en ∧ Box7 wf B10 z'.kind z'.half z'.text (.slice q1' z'.list.length v1') (.slice q2' z'.keys.length v2') (.slice q3' z'.vals.length v3') en' ∧
      JRep wf (allB wf) z (jcells z q1 v1 q2 v2 q3 v3) ∧ JRep wf (allB wf) z' (jcells z' q1' v1' q2' v2' q3' v3') := by
  obtain ⟨hb, h9, h10, hne, h1, h2⟩ := h
  have g9 := h9 _ rfl
  have g10 := h10 _ rfl
  have hn := hne _ _ rfl rfl
  subst hwf
  have jx : ∀ y v, JX w (some B9) (some B10) y v → JRep (set7 (set7 w B9 (.int .i64 z.kind) (.int .i64 z.half) (.string z.text) (.slice q1 z.list.length v1) (.slice q2 z.keys.length v2) (.slice q3 z.vals.length v3) (.int .i64 en)) B10 (.int .i64 z'.kind) (.int .i64 z'.half) (.string z'.text) (.slice q1' z'.list.length v1') (.slice q2' z'.keys.length v2') (.slice q3' z'.vals.length v3') (.int .i64 en')) (allB (set7 (set7 w B9 (.int .i64 z.kind) (.int .i64 z.half) (.string z.text) (.slice q1 z.list.length v1) (.slice q2 z.keys.length v2) (.slice q3 z.vals.length v3) (.int .i64 en)) B10 (.int .i64 z'.kind) (.int .i64 z'.half) (.string z'.text) (.slice q1' z'.list.length v1') (.slice q2' z'.keys.length v2') (.slice q3' z'.vals.length v3') (.int .i64 en'))) y v := fun y v hj => by
    obtain ⟨S, k1, k2, k3, k4⟩ := hj
    refine k1.keep (fun b hb => ?_) (fun b hb => ?_)
    · rw [set7_other _ _ _ _ _ _ _ b (fun e => by subst e; exact k4 _ rfl hb), set7_other _ _ _ _ _ _ _ b (fun e => by subst e; exact k3 _ rfl hb)]
    · unfold allB; rw [set7_size, set7_size]; exact k2 b hb
  exact ⟨(hb.trans (below_set7 g9.1 _ _ _ _ _ _ _)).trans (below_set7 g10.1 _ _ _ _ _ _ _), (set7_other _ _ _ _ _ _ _ B9 hn).trans (set7_box g9.2.2), set7_box ((set7_other _ _ _ _ _ _ _ B10 (Ne.symm hn)).trans g10.2.2), jx _ _ (h1 _ _ rfl), jx _ _ (h2 _ _ rfl)⟩
end Go.Gj

/-
  laws: zzFits3, apart, keyed, one; impl.DelPaths in use.
-/
namespace Go.Gj
set_option linter.unusedSimpArgs false
set_option linter.unusedVariables false
set_option linter.unnecessarySimpa false
open Go Go.RowKit Go.Proofs

theorem apart_at : ∀ (p q : List J) (i : Nat) (hi : i < p.length) (hj : i < q.length), p[i] ≠ q[i] → apartJ p q
  | [], _, i, hi, _, _ => by simp at hi
  | _ :: _, [], i, _, hj, _ => by simp at hj
  | k :: p, k' :: q, 0, _, _, h => .inl (by simpa using h)
  | k :: p, k' :: q, i + 1, hi, hj, h => .inr (apart_at p q i (by simpa using hi) (by simpa using hj) (by simpa using h))

theorem keyed_last : ∀ (q : List J) (i : Nat) (hi : i < q.length), i + 1 = q.length → q[i].kind = 4 → keyedJ q
  | [], i, hi, _, _ => by simp at hi
  | [k], i, hi, h, hk => by
    obtain rfl : i = 0 := by simpa using h
    cases k <;> simp [J.kind] at hk ⊢ <;> first | trivial | (rename_i b; cases b <;> simp [J.kind] at hk)
  | k :: k2 :: q, i, hi, h, hk => by
    obtain ⟨m, rfl⟩ : ∃ m, i = m + 1 := ⟨i - 1, by simp at h; omega⟩
    have := keyed_last (k2 :: q) m (by simpa using hi) (by simpa using h) (by simpa using hk)
    simpa [keyedJ] using this

/-- What comes of a deletion is within bounds, one wider. -/
theorem delJ_okn {n : Nat} : ∀ (p : List J) (v r : J), v.okn n → delJ v p = some r → r.okn (n + 1)
  | [], v, r, _, h => by cases v <;> simp [delJ] at h
  | k :: p, v, r, hv, h => by
    cases v with
    | null => rw [delJ_null] at h; obtain rfl := Option.some.inj h; trivial
    | bool b => cases k <;> cases p <;> simp [delJ] at h
    | num m => cases k <;> cases p <;> simp [delJ] at h
    | str s => cases k <;> cases p <;> simp [delJ] at h
    | arr l =>
      cases k <;> try (cases p <;> simp [delJ] at h; done)
      rename_i m
      cases p with
      | nil => simp [delJ] at h
      | cons k2 p =>
        simp only [delJ] at h
        split at h
        · rename_i hlt
          obtain ⟨u, hu, rfl⟩ := Option.map_eq_some_iff.1 h
          have hl := (oksn_iff _ _).1 hv.2
          have ih := delJ_okn (k2 :: p) _ u (getD_okn l _ hl) hu
          have h1 := hv.1
          refine ⟨by rw [List.length_set]; omega, (oksn_iff _ _).2 fun y hy => ?_⟩
          rcases List.mem_or_eq_of_mem_set hy with hy | rfl
          · exact okn_mono (by omega) y (hl y hy)
          · exact ih
        · obtain rfl := Option.some.inj h
          exact okn_mono (by omega) _ hv
    | obj ks vs =>
      cases k <;> try (cases p <;> simp [delJ] at h; done)
      rename_i s
      obtain ⟨h1, h2, h3, h4, h5⟩ := hv
      have hl := (oksn_iff _ _).1 h5
      cases p with
      | nil =>
        simp only [delJ, Option.some.injEq] at h
        subst h
        have hle := delK_le ks vs s
        exact ⟨delK_length ks vs s h1, by omega, delK_rises ks vs s h3, fun k hk => Nat.le_trans (h4 k (delK_sub ks vs s k hk)) (by omega), (oksn_iff _ _).2 fun y hy => okn_mono (by omega) y (hl y (delK_vals ks vs s y hy))⟩
      | cons k2 p =>
        simp only [delJ] at h
        split at h
        · rename_i hks
          obtain ⟨u, hu, rfl⟩ := Option.map_eq_some_iff.1 h
          have ih := delJ_okn (k2 :: p) _ u (getK_okn ks vs _ hl) hu
          have hpl := putK_length ks vs s u h1
          refine ⟨hpl.1, by omega, putK_rises ks vs s u h1 h3, fun k hk => ?_, (oksn_iff _ _).2 (putK_vals ks vs s u ih fun y hy => okn_mono (by omega) y (hl y hy))⟩
          rcases (putK_keys ks vs s u h1 k).1 hk with hk | rfl
          · exact Nat.le_trans (h4 k hk) (by omega)
          · exact Nat.le_trans (h4 k ((hasKey_iff ks k).1 hks)) (by omega)
        · obtain rfl := Option.some.inj h
          exact okn_mono (n := n) (by omega) (.obj ks vs) ⟨h1, h2, h3, h4, h5⟩
where
  delK_le : ∀ (ks : List ByteArray) (vs : List J) (s : ByteArray), (delK ks vs s).1.length ≤ ks.length
    | [], _, _ => by simp [delK]
    | _ :: _, [], _ => by simp [delK]
    | k :: ks, v :: vs, s => by
      have := delK_le ks vs s
      unfold delK
      split <;> simp <;> omega
  delK_vals : ∀ (ks : List ByteArray) (vs : List J) (s : ByteArray), ∀ y ∈ (delK ks vs s).2, y ∈ vs
    | [], _, _, y, hy => by simp [delK] at hy
    | _ :: _, [], _, y, hy => by simp [delK] at hy
    | k :: ks, v :: vs, s, y, hy => by
      unfold delK at hy
      split at hy
      · exact List.mem_cons_of_mem _ hy
      · rcases List.mem_cons.1 hy with rfl | hy
        · exact List.mem_cons_self
        · exact List.mem_cons_of_mem _ (delK_vals ks vs s y hy)

theorem DelPaths_use (x : J) (q : List J) (hx : x.ok) (hq : (J.arr q).fit) (hk : ∀ k ∈ q, keyOk k) (hkey : keyedJ q) (hsz : ∀ r, delJ x q = some r → r.sz) (w1 : World) (S : Nat → Prop) (hS : ∀ b, S b → b < w1.heap.size) (va vb : Value) (ha : JRep w1 S x va) (hb : JRep w1 S (.arr [.arr q]) vb) :
    Calls Tryz.prog 37 #[va, vb] w1 (AnsRes w1 (delJ x q)) :=
  DelPaths_door x (.arr [.arr q]) hx ⟨by simp [lim], fit_ok hq, trivial⟩ (delJ x q) (fun w2 g1 g2 h1 h2 => ZzDelPaths_ok x q hk hkey hx hsz w2 g1 g2 h1 h2) w1 S hS va vb ha hb

set_option maxRecDepth 100000 in
theorem zzFits3_ok (a1 a2 : Value) (w : World) : Calls Tryz.prog 34 #[.agg #[a1, a2]] w fun e w' => e = .returned (.bool true) ∧ Below w.heap.size w w' := by
  have HB := Lib.hid (below1 w (.cells #[a1, a2] 50))
  go_enter Tryz.func34, Tryz.ntmps34
  go_wp2_with fail
  exact bodyPost_ret (v := .bool true) (by simp [results, Tryz.results34, go_sem]) rfl ⟨rfl, HB.out⟩

set_option maxHeartbeats 1000000 in
set_option maxRecDepth 100000 in
theorem keyed_ok (q : List J) (w : World) (S : Nat → Prop) (a : Option Addr) (c : Nat) (h : JSl w S q (.slice a q.length c)) :
    Calls Tryz.prog 36 #[.slice a q.length c] w fun e w' => ∃ d, e = .returned (.bool d) ∧ Below w.heap.size w w' ∧ (d = true → keyedJ q) := by
  obtain ⟨a', c', hv, hn, hat⟩ := h.at
  obtain ⟨rfl, rfl⟩ : a = a' ∧ c = c' := by simpa using hv
  unfold mostLen at hn
  by_cases h0 : q.length = 0
  · have hd : decide ((q.length : Int) > 0) = false := decide_eq_false (by omega)
    rw [h0] at *
    clear hat hv h hn hd
    go_enter Tryz.func36, Tryz.ntmps36
    go_wp2_with fail
    exact bodyPost_ret (v := .bool false) (by simp [results, Tryz.results36, go_sem]) rfl (by first | exact ⟨false, rfl, Below.refl _ _, fun h => by cases h⟩ | exact .inl ⟨rfl, Below.refl _ _⟩)
  · obtain ⟨i, hi⟩ : ∃ i, i + 1 = q.length := ⟨q.length - 1, by omega⟩
    have hlt : i < q.length := by omega
    obtain ⟨b, o, rfl, _, c0, c1, c2, c3, c4, c5, g0, g1, g2, g3, g4, g5, hr⟩ := hat i hlt
    have hkl := keyed_last q i hlt hi
    obtain ⟨s1, s2, s3, hagg, _⟩ := hr.parts
    obtain ⟨rfl, rfl, rfl, rfl, rfl, rfl⟩ : c0 = .int .i64 q[i].kind ∧ c1 = .int .i64 q[i].half ∧ c2 = .string q[i].text ∧ c3 = s1 ∧ c4 = s2 ∧ c5 = s3 := by simpa using hagg
    have hw1 : IntKind.i64.wrap (((i + 1 : Nat) : Int) - 1) = i := by rw [IntKind.wrap_i64]; omega
    have hd : decide (((i + 1 : Nat) : Int) > 0) = true := decide_eq_true (by omega)
    generalize q[i].kind = kk at *
    rw [← hi] at *
    have hil : (i : Int) < ((i + 1 : Nat) : Int) := by omega
    have hi0 : (0 : Int) ≤ i := by omega
    have HK := Lib.hid hkl
    clear hat hv h hr hagg hkl hi hlt g1 g2 g3 g4 g5 h0
    go_enter Tryz.func36, Tryz.ntmps36
    go_wp2_with fail
    exact bodyPost_ret (v := .bool (kk == 4)) (by simp [results, Tryz.results36, go_sem]) rfl ⟨_, rfl, Below.refl _ _, fun h => HK.out (by simpa using h)⟩

set_option maxHeartbeats 1000000 in
set_option maxRecDepth 100000 in
theorem one_ok (a : Option Addr) (n c : Nat) (w : World) :
    Calls Tryz.prog 38 #[.slice a n c] w fun e w' => ∃ B, e = .returned (.agg #[.int .i64 5, .int .i64 0, .string ⟨#[]⟩, .slice (some ⟨B, 0, none⟩) 1 1, .slice none 0 0, .slice none 0 0]) ∧ Below w.heap.size w w' ∧ w.heap.size ≤ B ∧ w'.heap[B]? = some (.cells #[.int .i64 5, .int .i64 0, .string ⟨#[]⟩, .slice a n c, .slice none 0 0, .slice none 0 0] 26) := by
  have HA := Lib.hid (fun w1 => array_ok (.slice a n c) a n c w1 rfl)
  have HA2 := Lib.hid (fun B w1 => array_ok (.slice (some ⟨B, 0, none⟩) 1 1) (some ⟨B, 0, none⟩) 1 1 w1 rfl)
  have HB := Lib.hid (below1 w (.cells #[.int .i64 0, .int .i64 0, .string ⟨#[]⟩, .slice none 0 0, .slice none 0 0, .slice none 0 0] 26))
  have HX := Lib.hid (Box.new w 0 0 ⟨#[]⟩ (.slice none 0 0) (.slice none 0 0) (.slice none 0 0))
  have HS := Lib.hid (size_alloc w (.cells #[.int .i64 0, .int .i64 0, .string ⟨#[]⟩, .slice none 0 0, .slice none 0 0, .slice none 0 0] 26))
  go_enter Tryz.func38, Tryz.ntmps38
  go_wp2_with (first
    | (go_at_call 12; (with_reducible refine (HA.out _).mono ?_); rintro e w1 ⟨rfl, hb1⟩; have HB1 := Lib.hid hb1; have HB2 := Lib.hid (below1 w1 (.cells #[.int .i64 5, .int .i64 0, .string ⟨#[]⟩, .slice a n c, .slice none 0 0, .slice none 0 0] 26)); clear hb1)
    | (go_at_call 12; (with_reducible refine (HA2.out _ _).mono ?_); rintro e w2 ⟨rfl, hb2⟩; have HB3 := Lib.hid hb2; have hbx : Box w2 w.heap.size 0 0 ⟨#[]⟩ (.slice none 0 0) (.slice none 0 0) (.slice none 0 0) := (hb2.block _ (by have q1 := HB1.out.size; have q2 := HS.out; have q3 := HB2.out.size; omega)).trans ((HB2.out.block _ (by have q1 := HB1.out.size; have q2 := HS.out; omega)).trans ((HB1.out.block _ (by have q2 := HS.out; omega)).trans HX.out)); obtain ⟨x0, x1, x2, x3, x4, x5⟩ := hbx.c; have xf := hbx.f; have HBX := Lib.hid hbx; clear hb2 hbx))
  have HZ := Lib.hid (set6_box HBX.out (k' := 5) (h' := 0) (t' := ⟨#[]⟩) (r1 := .slice (some ⟨w1.heap.size, 0, none⟩) 1 1) (r2 := .slice none 0 0) (r3 := .slice none 0 0)).c
  refine bodyPost_ret (w := (set6 w2 w.heap.size (.int .i64 5) (.int .i64 0) (.string ⟨#[]⟩) (.slice (some ⟨w1.heap.size, 0, none⟩) 1 1) (.slice none 0 0) (.slice none 0 0))) (v := .agg #[.int .i64 5, .int .i64 0, .string ⟨#[]⟩, .slice (some ⟨w1.heap.size, 0, none⟩) 1 1, .slice none 0 0, .slice none 0 0]) ?_ rfl ?_
  · obtain ⟨y0, y1, y2, y3, y4, y5⟩ := HZ.out
    simp [results, Tryz.results38, go_sem, y0, y1, y2, y3, y4, y5]
  · have q1 := HB1.out.size
    have q2 := HS.out
    have b1 := HB.out.trans (HB1.out.mono (by omega))
    have b2 := b1.trans (HB2.out.mono b1.size)
    have b3 := b2.trans (HB3.out.mono b2.size)
    refine ⟨w1.heap.size, rfl, b3.trans (below_set6 (Nat.le_refl _) _ _ _ _ _ _), by omega, ?_⟩
    rw [set6_other _ _ _ _ _ _ _ (by omega), HB3.out.block _ (by rw [size_alloc]; omega), heap_alloc_new]

/-- What a path of paths is. -/
theorem one_rep {w : World} {B : Nat} {q : List J} {a : Option Addr} {c : Nat} (hb : w.heap[B]? = some (.cells #[.int .i64 5, .int .i64 0, .string ⟨#[]⟩, .slice a q.length c, .slice none 0 0, .slice none 0 0] 26)) (hq : JRep w (allB w) (.arr q) (.agg #[.int .i64 5, .int .i64 0, .string ⟨#[]⟩, .slice a q.length c, .slice none 0 0, .slice none 0 0])) :
    JRep w (allB w) (.arr [.arr q]) (.agg #[.int .i64 5, .int .i64 0, .string ⟨#[]⟩, .slice (some ⟨B, 0, none⟩) 1 1, .slice none 0 0, .slice none 0 0]) := by
  have hlt : B < w.heap.size := (Array.getElem?_eq_some_iff.1 hb).1
  have hc : ∀ i v', (#[.int .i64 5, .int .i64 0, .string ⟨#[]⟩, .slice a q.length c, .slice none 0 0, .slice none 0 0] : Array Value)[i]? = some v' → w.cell? ⟨B, 0 + i, none⟩ = some v' := fun i v' hv => by
    rw [Nat.zero_add]
    unfold World.cell?
    rw [hb]
    exact hv
  exact vrep_arr (l := J.toVs [.arr q]) ⟨some ⟨B, 0, none⟩, 1, rfl, by unfold mostLen; simp [J.toVs], .inr ⟨B, 0, rfl, hlt, ⟨_, _, _, _, _, _, hc 0 _ rfl, hc 1 _ rfl, hc 2 _ rfl, hc 3 _ rfl, hc 4 _ rfl, hc 5 _ rfl, hq⟩, trivial⟩⟩

set_option maxHeartbeats 2000000 in
set_option maxRecDepth 100000 in
theorem apart_ok (p q : List J) (hp : ∀ k ∈ p, k.ok) (hq : ∀ k ∈ q, k.ok) (w : World) (S : Nat → Prop) (hS : ∀ b, S b → b < w.heap.size) (a a' : Option Addr) (c c' : Nat) (h : JSl w S p (.slice a p.length c)) (h' : JSl w S q (.slice a' q.length c')) :
    Calls Tryz.prog 35 #[.slice a p.length c, .slice a' q.length c'] w fun e w' => ∃ d, e = .returned (.bool d) ∧ Below w.heap.size w w' ∧ (d = true → apartJ p q) := by
  have HP := Lib.hid h.at'
  have HQ := Lib.hid h'.at'
  have hn : p.length ≤ mostLen := by obtain ⟨_, _, _, h, _⟩ := h.at; exact h
  have hn' : q.length ≤ mostLen := by obtain ⟨_, _, _, h, _⟩ := h'.at; exact h
  unfold mostLen at hn hn'
  have HK := Lib.hid hp
  have HK' := Lib.hid hq
  have HS := Lib.hid hS
  have HB0 := Lib.hid (Below.refl w.heap.size w)
  clear h h' hp hq hS
  go_enter Tryz.func35, Tryz.ntmps35
  go_wp2_with fail
  go_loopw [5] (fun i wr => ∃ k : Nat, k ≤ p.length ∧ i = .int .i64 k ∧ Below w.heap.size w wr) (fun i _ => p.length - (Go.RowKit.intOf i).toNat)
  case atStart => exact ⟨0, Nat.zero_le _, rfl, HB0.out⟩
  case round =>
    obtain ⟨k, hk1, rfl, hbel⟩ := hrel
    have HBE := Lib.hid hbel
    clear hbel
    by_cases hlt : k < p.length
    · by_cases hlt' : k < q.length
      · obtain ⟨b1, o1, rfl, hs1, d0, d1, d2, d3, d4, d5, g0, g1, g2, g3, g4, g5, hr1⟩ := HP.out k hlt
        obtain ⟨b2, o2, rfl, hs2, e0, e1, e2, e3, e4, e5, f0, f1, f2, f3, f4, f5, hr2⟩ := HQ.out k hlt'
        have CB : Hid (∀ w1, Below w.heap.size w w1 → (w1.cell? ⟨b1, o1 + k * 6, none⟩ = some d0 ∧ w1.cell? ⟨b1, o1 + k * 6 + 1, none⟩ = some d1 ∧ w1.cell? ⟨b1, o1 + k * 6 + 2, none⟩ = some d2 ∧ w1.cell? ⟨b1, o1 + k * 6 + 3, none⟩ = some d3 ∧ w1.cell? ⟨b1, o1 + k * 6 + 4, none⟩ = some d4 ∧ w1.cell? ⟨b1, o1 + k * 6 + 5, none⟩ = some d5) ∧
            (w1.cell? ⟨b2, o2 + k * 6, none⟩ = some e0 ∧ w1.cell? ⟨b2, o2 + k * 6 + 1, none⟩ = some e1 ∧ w1.cell? ⟨b2, o2 + k * 6 + 2, none⟩ = some e2 ∧ w1.cell? ⟨b2, o2 + k * 6 + 3, none⟩ = some e3 ∧ w1.cell? ⟨b2, o2 + k * 6 + 4, none⟩ = some e4 ∧ w1.cell? ⟨b2, o2 + k * 6 + 5, none⟩ = some e5)) := Lib.hid fun w1 hb => by
          have G := fun o => hb.cell (p := ⟨b1, o, none⟩) (HS.out b1 hs1)
          have F := fun o => hb.cell (p := ⟨b2, o, none⟩) (HS.out b2 hs2)
          rw [← G] at g0 g1 g2 g3 g4 g5
          rw [← F] at f0 f1 f2 f3 f4 f5
          exact ⟨⟨g0, g1, g2, g3, g4, g5⟩, ⟨f0, f1, f2, f3, f4, f5⟩⟩
        have HC := Lib.hid (fun w1 (hb : Below w.heap.size w w1) => Same_ok p[k] q[k] w1 S (.agg #[d0, d1, d2, d3, d4, d5]) (.agg #[e0, e1, e2, e3, e4, e5]) (HK.out _ (List.getElem_mem hlt)) (HK'.out _ (List.getElem_mem hlt')) (lt_below hb HS.out) (hr1.below hb HS.out) (hr2.below hb HS.out))
        have HD : Hid ((cmpJ p[k] q[k] == 0) = false → apartJ p q) := Lib.hid fun h => apart_at p q k hlt hlt' fun e => by rw [e, cmpJ_self] at h; cases h
        generalize (cmpJ p[k] q[k] == 0) = dd at HC HD
        clear g0 g1 g2 g3 g4 g5 f0 f1 f2 f3 f4 f5 hr1 hr2
        have hik : (k : Int) < p.length := by omega
        have hik' : (k : Int) < q.length := by omega
        go_upto_region 4 with fail
        have HQ0 := Lib.hid HBE.out.drew
        obtain ⟨⟨g0, g1, g2, g3, g4, g5⟩, ⟨f0, f1, f2, f3, f4, f5⟩⟩ := CB.out _ HQ0.out
        go_region_held3 (fun w1 => (w1.cell? ⟨b1, o1 + k * 6, none⟩ = some d0 ∧ w1.cell? ⟨b1, o1 + k * 6 + 1, none⟩ = some d1 ∧ w1.cell? ⟨b1, o1 + k * 6 + 2, none⟩ = some d2 ∧ w1.cell? ⟨b1, o1 + k * 6 + 3, none⟩ = some d3 ∧ w1.cell? ⟨b1, o1 + k * 6 + 4, none⟩ = some d4 ∧ w1.cell? ⟨b1, o1 + k * 6 + 5, none⟩ = some d5) ∧
            (w1.cell? ⟨b2, o2 + k * 6, none⟩ = some e0 ∧ w1.cell? ⟨b2, o2 + k * 6 + 1, none⟩ = some e1 ∧ w1.cell? ⟨b2, o2 + k * 6 + 2, none⟩ = some e2 ∧ w1.cell? ⟨b2, o2 + k * 6 + 3, none⟩ = some e3 ∧ w1.cell? ⟨b2, o2 + k * 6 + 4, none⟩ = some e4 ∧ w1.cell? ⟨b2, o2 + k * 6 + 5, none⟩ = some e5))
          (first | with_reducible exact CB.out _ HQ0.out | with_reducible exact CB.out _ HQ1.out)
          ((go_at_call 61; (with_reducible refine (HC.out _ HQ0.out).mono ?_); rintro e w2 ⟨rfl, hx⟩; have HQ1 := Lib.hid (HQ0.out.trans (hx.mono HQ0.out.size)); clear hx))
        cases dd
        · go_wp2_with fail
          exact bodyPost_ret (v := .bool true) (by simp [results, Tryz.results35, go_sem]) rfl (by first | exact ⟨true, rfl, HQ1.out, fun _ => HD.out (by trivial)⟩ | exact .inr ⟨rfl, HQ1.out, HD.out (by trivial)⟩)
        · go_wp2_with fail
          go_roundw
          case rel => exact ⟨k + 1, hlt, by go_num, HQ1.out⟩
          case measure => simp [Go.RowKit.intOf]; omega
      · have hik : (k : Int) < p.length := by omega
        have hik' : ¬ (k : Int) < q.length := by omega
        go_wp2_with fail
        exact bodyPost_ret (v := .bool false) (by simp [results, Tryz.results35, go_sem]) rfl (by first | exact ⟨false, rfl, HBE.out, fun h => by cases h⟩ | exact .inl ⟨rfl, HBE.out⟩)
    · have hik : ¬ (k : Int) < p.length := by omega
      go_wp2_with fail
      exact bodyPost_ret (v := .bool false) (by simp [results, Tryz.results35, go_sem]) rfl (by first | exact ⟨false, rfl, HBE.out, fun h => by cases h⟩ | exact .inl ⟨rfl, HBE.out⟩)
end Go.Gj
