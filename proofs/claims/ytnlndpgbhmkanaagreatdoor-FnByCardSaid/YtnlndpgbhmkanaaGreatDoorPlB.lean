/-
  Plain data of JSON: values, their order, what stands at a key. No program and no memory.
-/
import GoSem.Op.String
namespace Go.Gj

/-- A value of JSON: `num h` is the number h / 2; an object has its keys and, in their order, its values. -/
inductive J where
  | null
  | bool (b : Bool)
  | num (h : Int)
  | str (s : ByteArray)
  | arr (l : List J)
  | obj (ks : List ByteArray) (vs : List J)

/-- The raw record of the thin package. -/
inductive V where
  | mk (kind half : Int) (text : ByteArray) (list : List V) (keys : List ByteArray) (vals : List V)

mutual
def J.toV : J → V
  | .null => .mk 0 0 (⟨#[]⟩ : ByteArray) [] [] []
  | .bool false => .mk 1 0 (⟨#[]⟩ : ByteArray) [] [] []
  | .bool true => .mk 2 0 (⟨#[]⟩ : ByteArray) [] [] []
  | .num h => .mk 3 h (⟨#[]⟩ : ByteArray) [] [] []
  | .str s => .mk 4 0 s [] [] []
  | .arr l => .mk 5 0 (⟨#[]⟩ : ByteArray) (J.toVs l) [] []
  | .obj ks vs => .mk 6 0 (⟨#[]⟩ : ByteArray) [] ks (J.toVs vs)
def J.toVs : List J → List V
  | [] => []
  | x :: xs => x.toV :: J.toVs xs
end

theorem toVs_length (l : List J) : (J.toVs l).length = l.length := by
  induction l with
  | nil => rfl
  | cons x xs ih => simp [J.toVs, ih]

theorem toVs_eq_map (l : List J) : J.toVs l = l.map J.toV := by
  induction l with
  | nil => rfl
  | cons x xs ih => simp [J.toVs, ih]

/-- The order of kinds. -/
def J.rank : J → Int
  | .null => 0
  | .bool false => 1
  | .bool true => 2
  | .num _ => 3
  | .str _ => 4
  | .arr _ => 5
  | .obj _ _ => 6

def sgn (n : Int) : Int := if n < 0 then -1 else if n > 0 then 1 else 0

def slt (a b : ByteArray) : Bool := Op.bytesLess a.toList b.toList

def cmpS (a b : ByteArray) : Int := if slt a b then -1 else if a.toList == b.toList then 0 else 1

/-- Two lists of keys, as arrays of strings. -/
def cmpKs : List ByteArray → List ByteArray → Int
  | a :: as, b :: bs => if cmpS a b = 0 then cmpKs as bs else cmpS a b
  | as, bs => (as.length : Int) - bs.length

mutual
def cmpJ : J → J → Int
  | .num x, .num y => sgn (x - y)
  | .str s, .str t => cmpS s t
  | .arr l, .arr m => sgn (cmpL l m)
  | .obj ks vs, .obj ls ws => if cmpKs ks ls = 0 then sgn (cmpL vs ws) else sgn (cmpKs ks ls)
  | a, b => sgn (a.rank - b.rank)
def cmpL : List J → List J → Int
  | a :: as, b :: bs => if cmpJ a b = 0 then cmpL as bs else cmpJ a b
  | as, bs => (as.length : Int) - bs.length
end

theorem bytesLess_irrefl (l : List UInt8) : Op.bytesLess l l = false := by
  induction l with
  | nil => rfl
  | cons a l ih => simp [Op.bytesLess, ih]

theorem slt_irrefl (a : ByteArray) : slt a a = false := bytesLess_irrefl _

theorem cmpS_self (a : ByteArray) : cmpS a a = 0 := by simp [cmpS, slt_irrefl]

theorem cmpKs_self (l : List ByteArray) : cmpKs l l = 0 := by
  induction l with
  | nil => simp [cmpKs]
  | cons a l ih => simp [cmpKs, cmpS_self, ih]

mutual
theorem cmpJ_self : ∀ a : J, cmpJ a a = 0
  | .null => by simp [cmpJ, sgn]
  | .bool b => by simp [cmpJ, sgn]
  | .num h => by simp [cmpJ, sgn]
  | .str s => by simp [cmpJ, cmpS_self]
  | .arr l => by simp [cmpJ, cmpL_self l, sgn]
  | .obj ks vs => by simp [cmpJ, cmpKs_self, cmpL_self vs, sgn]
theorem cmpL_self : ∀ l : List J, cmpL l l = 0
  | [] => by simp [cmpL]
  | a :: l => by simp [cmpL, cmpJ_self a, cmpL_self l]
end

theorem cmpKs_nil_right (xs : List ByteArray) : cmpKs xs [] = xs.length := by cases xs <;> simp [cmpKs]
theorem cmpKs_nil_left (ys : List ByteArray) : cmpKs [] ys = -(ys.length : Int) := by cases ys <;> simp [cmpKs]
theorem cmpL_nil_right (xs : List J) : cmpL xs [] = xs.length := by cases xs <;> simp [cmpL]
theorem cmpL_nil_left (ys : List J) : cmpL [] ys = -(ys.length : Int) := by cases ys <;> simp [cmpL]

theorem cmpKs_drop (xs ys : List ByteArray) (k : Nat) (h1 : k < xs.length) (h2 : k < ys.length) :
    cmpKs (xs.drop k) (ys.drop k) = if cmpS xs[k] ys[k] = 0 then cmpKs (xs.drop (k + 1)) (ys.drop (k + 1)) else cmpS xs[k] ys[k] := by
  rw [List.drop_eq_getElem_cons h1, List.drop_eq_getElem_cons h2]; rfl
theorem cmpL_drop (xs ys : List J) (k : Nat) (h1 : k < xs.length) (h2 : k < ys.length) :
    cmpL (xs.drop k) (ys.drop k) = if cmpJ xs[k] ys[k] = 0 then cmpL (xs.drop (k + 1)) (ys.drop (k + 1)) else cmpJ xs[k] ys[k] := by
  rw [List.drop_eq_getElem_cons h1, List.drop_eq_getElem_cons h2]; simp only [cmpL]
/-- Behind the end of one list. -/
theorem cmpKs_end (xs ys : List ByteArray) (k : Nat) (h1 : k ≤ xs.length) (h2 : k ≤ ys.length) (h : k = xs.length ∨ k = ys.length) : cmpKs (xs.drop k) (ys.drop k) = (xs.length : Int) - ys.length := by
  rcases h with h | h
  · subst h; rw [List.drop_length, cmpKs_nil_left, List.length_drop]; omega
  · subst h; rw [List.drop_length, cmpKs_nil_right, List.length_drop]; omega
theorem cmpL_end (xs ys : List J) (k : Nat) (h1 : k ≤ xs.length) (h2 : k ≤ ys.length) (h : k = xs.length ∨ k = ys.length) : cmpL (xs.drop k) (ys.drop k) = (xs.length : Int) - ys.length := by
  rcases h with h | h
  · subst h; rw [List.drop_length, cmpL_nil_left, List.length_drop]; omega
  · subst h; rw [List.drop_length, cmpL_nil_right, List.length_drop]; omega

/-- What stands at a key; null where nothing does. -/
def getK : List ByteArray → List J → ByteArray → J
  | k :: ks, v :: vs, s => if k = s then v else getK ks vs s
  | _, _, _ => .null

def hasK (ks : List ByteArray) (s : ByteArray) : Bool := ks.any (fun k => k == s)

/-- Keys rise. -/
def rises : List ByteArray → Prop
  | a :: b :: l => slt a b = true ∧ rises (b :: l)
  | _ => True

#print axioms cmpJ_self
end Go.Gj

/-
  The parts of a value of JSON, and which values are within bounds. No program and no memory.
-/
namespace Go.Gj

def J.kind : J → Int
  | .null => 0
  | .bool false => 1
  | .bool true => 2
  | .num _ => 3
  | .str _ => 4
  | .arr _ => 5
  | .obj _ _ => 6
def J.half : J → Int
  | .num h => h
  | _ => 0
def J.text : J → ByteArray
  | .str s => s
  | _ => (⟨#[]⟩ : ByteArray)
def J.list : J → List J
  | .arr l => l
  | _ => []
def J.keys : J → List ByteArray
  | .obj ks _ => ks
  | _ => []
def J.vals : J → List J
  | .obj _ vs => vs
  | _ => []

theorem toV_eq (x : J) : x.toV = .mk x.kind x.half x.text (J.toVs x.list) x.keys (J.toVs x.vals) := by
  rcases x with _ | (_ | _) | _ | _ | _ | ⟨_, _⟩ <;> rfl

theorem kind_lo (x : J) : 0 ≤ x.kind := by rcases x with _ | (_ | _) | _ | _ | _ | ⟨_, _⟩ <;> simp [J.kind]
theorem kind_hi (x : J) : x.kind ≤ 6 := by rcases x with _ | (_ | _) | _ | _ | _ | ⟨_, _⟩ <;> simp [J.kind]

def lim : Nat := 1000000

mutual
def J.ok : J → Prop
  | .null => True
  | .bool _ => True
  | .num h => -18014398509481984 ≤ h ∧ h ≤ 18014398509481984 ∧ (h % 2 = 0 ∨ h.natAbs < 2 ^ 53)
  | .str s => s.size ≤ lim
  | .arr l => l.length ≤ lim ∧ J.oks l
  | .obj ks vs => ks.length = vs.length ∧ ks.length ≤ lim ∧ rises ks ∧ (∀ k ∈ ks, k.size ≤ lim) ∧ J.oks vs
def J.oks : List J → Prop
  | [] => True
  | x :: xs => x.ok ∧ J.oks xs
end

theorem oks_iff (l : List J) : J.oks l ↔ ∀ x ∈ l, x.ok := by
  induction l with
  | nil => simp [J.oks]
  | cons x xs ih => simp [J.oks, ih]

theorem ok_half {x : J} (h : x.ok) : -18014398509481984 ≤ x.half ∧ x.half ≤ 18014398509481984 := by
  cases x <;> simp [J.half] <;> (simp [J.ok] at h; omega)
theorem ok_list {x : J} (h : x.ok) : x.list.length ≤ lim ∧ ∀ y ∈ x.list, y.ok := by
  cases x <;> simp [J.list, lim]
  simp only [J.ok, lim, oks_iff] at h; exact h
theorem ok_vals {x : J} (h : x.ok) : x.vals.length ≤ lim ∧ ∀ y ∈ x.vals, y.ok := by
  cases x <;> simp [J.vals, lim]
  simp only [J.ok, lim, oks_iff] at h; exact ⟨by omega, h.2.2.2.2⟩
theorem ok_keys {x : J} (h : x.ok) : x.keys.length = x.vals.length ∧ x.keys.length ≤ lim ∧ rises x.keys ∧ ∀ k ∈ x.keys, k.size ≤ lim := by
  cases x <;> simp [J.keys, J.vals, lim, rises]
  simp only [J.ok, lim] at h; exact ⟨h.1, h.2.1, h.2.2.1, h.2.2.2.1⟩

theorem list_lt {x y : J} (h : y ∈ x.list) : SizeOf.sizeOf y < SizeOf.sizeOf x := by
  cases x <;> simp [J.list] at h
  have := List.sizeOf_lt_of_mem h; simp; omega
theorem vals_lt {x y : J} (h : y ∈ x.vals) : SizeOf.sizeOf y < SizeOf.sizeOf x := by
  cases x <;> simp [J.vals] at h
  have := List.sizeOf_lt_of_mem h; simp; omega

/-- The order, as it is reckoned. -/
theorem cmpJ_ne {x y : J} (h : x.kind ≠ y.kind) : cmpJ x y = sgn (x.kind - y.kind) := by
  rcases x with _ | (_ | _) | _ | _ | _ | ⟨_, _⟩ <;> rcases y with _ | (_ | _) | _ | _ | _ | ⟨_, _⟩ <;> first | exact absurd rfl h | (simp [cmpJ, J.rank, J.kind])
theorem cmpJ_3 {x y : J} (hx : x.kind = 3) (hy : y.kind = 3) : cmpJ x y = sgn (x.half - y.half) := by
  rcases x with _ | (_ | _) | _ | _ | _ | ⟨_, _⟩ <;> simp [J.kind] at hx
  rcases y with _ | (_ | _) | _ | _ | _ | ⟨_, _⟩ <;> simp [J.kind] at hy
  simp [cmpJ, J.half]
theorem cmpJ_4 {x y : J} (hx : x.kind = 4) (hy : y.kind = 4) : cmpJ x y = cmpS x.text y.text := by
  rcases x with _ | (_ | _) | _ | _ | _ | ⟨_, _⟩ <;> simp [J.kind] at hx
  rcases y with _ | (_ | _) | _ | _ | _ | ⟨_, _⟩ <;> simp [J.kind] at hy
  simp [cmpJ, J.text]
theorem cmpJ_5 {x y : J} (hx : x.kind = 5) (hy : y.kind = 5) : cmpJ x y = sgn (cmpL x.list y.list) := by
  rcases x with _ | (_ | _) | _ | _ | _ | ⟨_, _⟩ <;> simp [J.kind] at hx
  rcases y with _ | (_ | _) | _ | _ | _ | ⟨_, _⟩ <;> simp [J.kind] at hy
  simp [cmpJ, J.list]
theorem cmpJ_6 {x y : J} (hx : x.kind = 6) (hy : y.kind = 6) : cmpJ x y = if cmpKs x.keys y.keys = 0 then sgn (cmpL x.vals y.vals) else sgn (cmpKs x.keys y.keys) := by
  rcases x with _ | (_ | _) | _ | _ | _ | ⟨ks, vs⟩ <;> simp [J.kind] at hx
  rcases y with _ | (_ | _) | _ | _ | _ | ⟨ls, ws⟩ <;> simp [J.kind] at hy
  show cmpJ (.obj ks vs) (.obj ls ws) = if cmpKs ks ls = 0 then sgn (cmpL vs ws) else sgn (cmpKs ks ls)
  simp only [cmpJ]
theorem cmpJ_0 {x y : J} (hx : x.kind = y.kind) (hk : x.kind < 3) : cmpJ x y = 0 := by
  rcases x with _ | (_ | _) | _ | _ | _ | ⟨_, _⟩ <;> rcases y with _ | (_ | _) | _ | _ | _ | ⟨_, _⟩ <;> simp [J.kind] at hx hk <;> simp [cmpJ, sgn]

theorem sgn_range (n : Int) : -1 ≤ sgn n ∧ sgn n ≤ 1 := by unfold sgn; split <;> (try split) <;> omega
theorem cmpS_range (a b : ByteArray) : -1 ≤ cmpS a b ∧ cmpS a b ≤ 1 := by unfold cmpS; split <;> (try split) <;> omega
theorem cmpJ_range (x y : J) : -1 ≤ cmpJ x y ∧ cmpJ x y ≤ 1 := by
  have sr := fun n => sgn_range n
  cases x <;> cases y <;> simp only [cmpJ] <;> (try exact sr _) <;> (try exact cmpS_range _ _)
  split <;> exact sr _
theorem cmpKs_range (xs ys : List ByteArray) : -(ys.length : Int) - 1 ≤ cmpKs xs ys ∧ cmpKs xs ys ≤ (xs.length : Int) + 1 := by
  induction xs generalizing ys with
  | nil => rw [cmpKs_nil_left]; simp; omega
  | cons a l ih =>
    cases ys with
    | nil => rw [cmpKs_nil_right]; simp; omega
    | cons b m =>
      simp only [cmpKs]
      have := cmpS_range a b; have := ih m
      split <;> simp <;> omega
theorem cmpL_range (xs ys : List J) : -(ys.length : Int) - 1 ≤ cmpL xs ys ∧ cmpL xs ys ≤ (xs.length : Int) + 1 := by
  induction xs generalizing ys with
  | nil => rw [cmpL_nil_left]; simp; omega
  | cons a l ih =>
    cases ys with
    | nil => rw [cmpL_nil_right]; simp; omega
    | cons b m =>
      simp only [cmpL]
      have := cmpJ_range a b; have := ih m
      split <;> simp <;> omega
mutual
/-- Within bounds that are told: texts, lists and maps of at most n. -/
def J.okn (n : Nat) : J → Prop
  | .null => True
  | .bool _ => True
  | .num h => -18014398509481984 ≤ h ∧ h ≤ 18014398509481984 ∧ (h % 2 = 0 ∨ h.natAbs < 2 ^ 53)
  | .str s => s.size ≤ n
  | .arr l => l.length ≤ n ∧ J.oksn n l
  | .obj ks vs => ks.length = vs.length ∧ ks.length ≤ n ∧ rises ks ∧ (∀ k ∈ ks, k.size ≤ n) ∧ J.oksn n vs
def J.oksn (n : Nat) : List J → Prop
  | [] => True
  | x :: xs => x.okn n ∧ J.oksn n xs
end
/-- What spec.Fit lets in. -/
def J.fit (x : J) : Prop := x.okn 2000

theorem oksn_iff (n : Nat) (l : List J) : J.oksn n l ↔ ∀ x ∈ l, x.okn n := by
  induction l with
  | nil => simp [J.oksn]
  | cons x xs ih => simp [J.oksn, ih]

theorem okn_mono {n m : Nat} (h : n ≤ m) : ∀ x : J, x.okn n → x.okn m
  | .null, _ => trivial
  | .bool _, _ => trivial
  | .num _, hx => hx
  | .str _, hx => Nat.le_trans hx h
  | .arr l, hx => ⟨Nat.le_trans hx.1 h, (oksn_iff m l).2 fun y hy => okn_mono h y ((oksn_iff n l).1 hx.2 y hy)⟩
  | .obj ks vs, hx => ⟨hx.1, Nat.le_trans hx.2.1 h, hx.2.2.1, fun k hk => Nat.le_trans (hx.2.2.2.1 k hk) h, (oksn_iff m vs).2 fun y hy => okn_mono h y ((oksn_iff n vs).1 hx.2.2.2.2 y hy)⟩
termination_by x => SizeOf.sizeOf x
decreasing_by
  · have := List.sizeOf_lt_of_mem hy; simp; omega
  · have := List.sizeOf_lt_of_mem hy; simp; omega

theorem okn_ok {n : Nat} (h : n ≤ lim) : ∀ x : J, x.okn n → x.ok
  | .null, _ => trivial
  | .bool _, _ => trivial
  | .num _, hx => hx
  | .str _, hx => Nat.le_trans hx h
  | .arr l, hx => ⟨Nat.le_trans hx.1 h, (oks_iff l).2 fun y hy => okn_ok h y ((oksn_iff n l).1 hx.2 y hy)⟩
  | .obj ks vs, hx => ⟨hx.1, Nat.le_trans hx.2.1 h, hx.2.2.1, fun k hk => Nat.le_trans (hx.2.2.2.1 k hk) h, (oks_iff vs).2 fun y hy => okn_ok h y ((oksn_iff n vs).1 hx.2.2.2.2 y hy)⟩
termination_by x => SizeOf.sizeOf x
decreasing_by
  · have := List.sizeOf_lt_of_mem hy; simp; omega
  · have := List.sizeOf_lt_of_mem hy; simp; omega
theorem fit_ok {x : J} (h : x.fit) : x.ok := okn_ok (by unfold lim; omega) x h

#print axioms cmpL_range
end Go.Gj
