/-
  The parts of a value of JSON, and which values are within bounds. No program and no memory.
-/
import Derived.Test.YtnlndpgbhmkanaaGreatDoorPlA
namespace Go.Gj

def J.kind : J → Int
  | .null => 0
  | .bool false => 1
  | .bool true => 2
  | .num _ => 3
  | .str _ => 4
  | .arr _ => 5
  | .obj _ _ => 6
def J.half : J → Int
  | .num h => h
  | _ => 0
def J.text : J → ByteArray
  | .str s => s
  | _ => (⟨#[]⟩ : ByteArray)
def J.list : J → List J
  | .arr l => l
  | _ => []
def J.keys : J → List ByteArray
  | .obj ks _ => ks
  | _ => []
def J.vals : J → List J
  | .obj _ vs => vs
  | _ => []

theorem toV_eq (x : J) : x.toV = .mk x.kind x.half x.text (J.toVs x.list) x.keys (J.toVs x.vals) := by
  rcases x with _ | (_ | _) | _ | _ | _ | ⟨_, _⟩ <;> rfl

theorem kind_lo (x : J) : 0 ≤ x.kind := by rcases x with _ | (_ | _) | _ | _ | _ | ⟨_, _⟩ <;> simp [J.kind]
theorem kind_hi (x : J) : x.kind ≤ 6 := by rcases x with _ | (_ | _) | _ | _ | _ | ⟨_, _⟩ <;> simp [J.kind]

def lim : Nat := 1000000

mutual
def J.ok : J → Prop
  | .null => True
  | .bool _ => True
  | .num h => -18014398509481984 ≤ h ∧ h ≤ 18014398509481984 ∧ (h % 2 = 0 ∨ h.natAbs < 2 ^ 53)
  | .str s => s.size ≤ lim
  | .arr l => l.length ≤ lim ∧ J.oks l
  | .obj ks vs => ks.length = vs.length ∧ ks.length ≤ lim ∧ rises ks ∧ (∀ k ∈ ks, k.size ≤ lim) ∧ J.oks vs
def J.oks : List J → Prop
  | [] => True
  | x :: xs => x.ok ∧ J.oks xs
end

theorem oks_iff (l : List J) : J.oks l ↔ ∀ x ∈ l, x.ok := by
  induction l with
  | nil => simp [J.oks]
  | cons x xs ih => simp [J.oks, ih]

theorem ok_half {x : J} (h : x.ok) : -18014398509481984 ≤ x.half ∧ x.half ≤ 18014398509481984 := by
  cases x <;> simp [J.half] <;> (simp [J.ok] at h; omega)
theorem ok_list {x : J} (h : x.ok) : x.list.length ≤ lim ∧ ∀ y ∈ x.list, y.ok := by
  cases x <;> simp [J.list, lim]
  simp only [J.ok, lim, oks_iff] at h; exact h
theorem ok_vals {x : J} (h : x.ok) : x.vals.length ≤ lim ∧ ∀ y ∈ x.vals, y.ok := by
  cases x <;> simp [J.vals, lim]
  simp only [J.ok, lim, oks_iff] at h; exact ⟨by omega, h.2.2.2.2⟩
theorem ok_keys {x : J} (h : x.ok) : x.keys.length = x.vals.length ∧ x.keys.length ≤ lim ∧ rises x.keys ∧ ∀ k ∈ x.keys, k.size ≤ lim := by
  cases x <;> simp [J.keys, J.vals, lim, rises]
  simp only [J.ok, lim] at h; exact ⟨h.1, h.2.1, h.2.2.1, h.2.2.2.1⟩

theorem list_lt {x y : J} (h : y ∈ x.list) : SizeOf.sizeOf y < SizeOf.sizeOf x := by
  cases x <;> simp [J.list] at h
  have := List.sizeOf_lt_of_mem h; simp; omega
theorem vals_lt {x y : J} (h : y ∈ x.vals) : SizeOf.sizeOf y < SizeOf.sizeOf x := by
  cases x <;> simp [J.vals] at h
  have := List.sizeOf_lt_of_mem h; simp; omega

/-- The order, as it is reckoned. -/
theorem cmpJ_ne {x y : J} (h : x.kind ≠ y.kind) : cmpJ x y = sgn (x.kind - y.kind) := by
  rcases x with _ | (_ | _) | _ | _ | _ | ⟨_, _⟩ <;> rcases y with _ | (_ | _) | _ | _ | _ | ⟨_, _⟩ <;> first | exact absurd rfl h | (simp [cmpJ, J.rank, J.kind])
theorem cmpJ_3 {x y : J} (hx : x.kind = 3) (hy : y.kind = 3) : cmpJ x y = sgn (x.half - y.half) := by
  rcases x with _ | (_ | _) | _ | _ | _ | ⟨_, _⟩ <;> simp [J.kind] at hx
  rcases y with _ | (_ | _) | _ | _ | _ | ⟨_, _⟩ <;> simp [J.kind] at hy
  simp [cmpJ, J.half]
theorem cmpJ_4 {x y : J} (hx : x.kind = 4) (hy : y.kind = 4) : cmpJ x y = cmpS x.text y.text := by
  rcases x with _ | (_ | _) | _ | _ | _ | ⟨_, _⟩ <;> simp [J.kind] at hx
  rcases y with _ | (_ | _) | _ | _ | _ | ⟨_, _⟩ <;> simp [J.kind] at hy
  simp [cmpJ, J.text]
theorem cmpJ_5 {x y : J} (hx : x.kind = 5) (hy : y.kind = 5) : cmpJ x y = sgn (cmpL x.list y.list) := by
  rcases x with _ | (_ | _) | _ | _ | _ | ⟨_, _⟩ <;> simp [J.kind] at hx
  rcases y with _ | (_ | _) | _ | _ | _ | ⟨_, _⟩ <;> simp [J.kind] at hy
  simp [cmpJ, J.list]
theorem cmpJ_6 {x y : J} (hx : x.kind = 6) (hy : y.kind = 6) : cmpJ x y = if cmpKs x.keys y.keys = 0 then sgn (cmpL x.vals y.vals) else sgn (cmpKs x.keys y.keys) := by
  rcases x with _ | (_ | _) | _ | _ | _ | ⟨ks, vs⟩ <;> simp [J.kind] at hx
  rcases y with _ | (_ | _) | _ | _ | _ | ⟨ls, ws⟩ <;> simp [J.kind] at hy
  show cmpJ (.obj ks vs) (.obj ls ws) = if cmpKs ks ls = 0 then sgn (cmpL vs ws) else sgn (cmpKs ks ls)
  simp only [cmpJ]
theorem cmpJ_0 {x y : J} (hx : x.kind = y.kind) (hk : x.kind < 3) : cmpJ x y = 0 := by
  rcases x with _ | (_ | _) | _ | _ | _ | ⟨_, _⟩ <;> rcases y with _ | (_ | _) | _ | _ | _ | ⟨_, _⟩ <;> simp [J.kind] at hx hk <;> simp [cmpJ, sgn]

theorem sgn_range (n : Int) : -1 ≤ sgn n ∧ sgn n ≤ 1 := by unfold sgn; split <;> (try split) <;> omega
theorem cmpS_range (a b : ByteArray) : -1 ≤ cmpS a b ∧ cmpS a b ≤ 1 := by unfold cmpS; split <;> (try split) <;> omega
theorem cmpJ_range (x y : J) : -1 ≤ cmpJ x y ∧ cmpJ x y ≤ 1 := by
  have sr := fun n => sgn_range n
  cases x <;> cases y <;> simp only [cmpJ] <;> (try exact sr _) <;> (try exact cmpS_range _ _)
  split <;> exact sr _
theorem cmpKs_range (xs ys : List ByteArray) : -(ys.length : Int) - 1 ≤ cmpKs xs ys ∧ cmpKs xs ys ≤ (xs.length : Int) + 1 := by
  induction xs generalizing ys with
  | nil => rw [cmpKs_nil_left]; simp; omega
  | cons a l ih =>
    cases ys with
    | nil => rw [cmpKs_nil_right]; simp; omega
    | cons b m =>
      simp only [cmpKs]
      have := cmpS_range a b; have := ih m
      split <;> simp <;> omega
theorem cmpL_range (xs ys : List J) : -(ys.length : Int) - 1 ≤ cmpL xs ys ∧ cmpL xs ys ≤ (xs.length : Int) + 1 := by
  induction xs generalizing ys with
  | nil => rw [cmpL_nil_left]; simp; omega
  | cons a l ih =>
    cases ys with
    | nil => rw [cmpL_nil_right]; simp; omega
    | cons b m =>
      simp only [cmpL]
      have := cmpJ_range a b; have := ih m
      split <;> simp <;> omega
mutual
/-- Within bounds that are told: texts, lists and maps of at most n. -/
def J.okn (n : Nat) : J → Prop
  | .null => True
  | .bool _ => True
  | .num h => -18014398509481984 ≤ h ∧ h ≤ 18014398509481984 ∧ (h % 2 = 0 ∨ h.natAbs < 2 ^ 53)
  | .str s => s.size ≤ n
  | .arr l => l.length ≤ n ∧ J.oksn n l
  | .obj ks vs => ks.length = vs.length ∧ ks.length ≤ n ∧ rises ks ∧ (∀ k ∈ ks, k.size ≤ n) ∧ J.oksn n vs
def J.oksn (n : Nat) : List J → Prop
  | [] => True
  | x :: xs => x.okn n ∧ J.oksn n xs
end
/-- What spec.Fit lets in. -/
def J.fit (x : J) : Prop := x.okn 2000

theorem oksn_iff (n : Nat) (l : List J) : J.oksn n l ↔ ∀ x ∈ l, x.okn n := by
  induction l with
  | nil => simp [J.oksn]
  | cons x xs ih => simp [J.oksn, ih]

theorem okn_mono {n m : Nat} (h : n ≤ m) : ∀ x : J, x.okn n → x.okn m
  | .null, _ => trivial
  | .bool _, _ => trivial
  | .num _, hx => hx
  | .str _, hx => Nat.le_trans hx h
  | .arr l, hx => ⟨Nat.le_trans hx.1 h, (oksn_iff m l).2 fun y hy => okn_mono h y ((oksn_iff n l).1 hx.2 y hy)⟩
  | .obj ks vs, hx => ⟨hx.1, Nat.le_trans hx.2.1 h, hx.2.2.1, fun k hk => Nat.le_trans (hx.2.2.2.1 k hk) h, (oksn_iff m vs).2 fun y hy => okn_mono h y ((oksn_iff n vs).1 hx.2.2.2.2 y hy)⟩
termination_by x => SizeOf.sizeOf x
decreasing_by
  · have := List.sizeOf_lt_of_mem hy; simp; omega
  · have := List.sizeOf_lt_of_mem hy; simp; omega

theorem okn_ok {n : Nat} (h : n ≤ lim) : ∀ x : J, x.okn n → x.ok
  | .null, _ => trivial
  | .bool _, _ => trivial
  | .num _, hx => hx
  | .str _, hx => Nat.le_trans hx h
  | .arr l, hx => ⟨Nat.le_trans hx.1 h, (oks_iff l).2 fun y hy => okn_ok h y ((oksn_iff n l).1 hx.2 y hy)⟩
  | .obj ks vs, hx => ⟨hx.1, Nat.le_trans hx.2.1 h, hx.2.2.1, fun k hk => Nat.le_trans (hx.2.2.2.1 k hk) h, (oks_iff vs).2 fun y hy => okn_ok h y ((oksn_iff n vs).1 hx.2.2.2.2 y hy)⟩
termination_by x => SizeOf.sizeOf x
decreasing_by
  · have := List.sizeOf_lt_of_mem hy; simp; omega
  · have := List.sizeOf_lt_of_mem hy; simp; omega
theorem fit_ok {x : J} (h : x.fit) : x.ok := okn_ok (by unfold lim; omega) x h

#print axioms cmpL_range
end Go.Gj
