/-
  Plain data of JSON: values, their order, what stands at a key. No program and no memory.
-/
import GoSem.Op.String
namespace Go.Gj

/-- A value of JSON: `num h` is the number h / 2; an object has its keys and, in their order, its values. -/
inductive J where
  | null
  | bool (b : Bool)
  | num (h : Int)
  | str (s : ByteArray)
  | arr (l : List J)
  | obj (ks : List ByteArray) (vs : List J)

/-- The raw record of the thin package. -/
inductive V where
  | mk (kind half : Int) (text : ByteArray) (list : List V) (keys : List ByteArray) (vals : List V)

mutual
def J.toV : J → V
  | .null => .mk 0 0 (⟨#[]⟩ : ByteArray) [] [] []
  | .bool false => .mk 1 0 (⟨#[]⟩ : ByteArray) [] [] []
  | .bool true => .mk 2 0 (⟨#[]⟩ : ByteArray) [] [] []
  | .num h => .mk 3 h (⟨#[]⟩ : ByteArray) [] [] []
  | .str s => .mk 4 0 s [] [] []
  | .arr l => .mk 5 0 (⟨#[]⟩ : ByteArray) (J.toVs l) [] []
  | .obj ks vs => .mk 6 0 (⟨#[]⟩ : ByteArray) [] ks (J.toVs vs)
def J.toVs : List J → List V
  | [] => []
  | x :: xs => x.toV :: J.toVs xs
end

theorem toVs_length (l : List J) : (J.toVs l).length = l.length := by
  induction l with
  | nil => rfl
  | cons x xs ih => simp [J.toVs, ih]

theorem toVs_eq_map (l : List J) : J.toVs l = l.map J.toV := by
  induction l with
  | nil => rfl
  | cons x xs ih => simp [J.toVs, ih]

/-- The order of kinds. -/
def J.rank : J → Int
  | .null => 0
  | .bool false => 1
  | .bool true => 2
  | .num _ => 3
  | .str _ => 4
  | .arr _ => 5
  | .obj _ _ => 6

def sgn (n : Int) : Int := if n < 0 then -1 else if n > 0 then 1 else 0

def slt (a b : ByteArray) : Bool := Op.bytesLess a.toList b.toList

def cmpS (a b : ByteArray) : Int := if slt a b then -1 else if a.toList == b.toList then 0 else 1

/-- Two lists of keys, as arrays of strings. -/
def cmpKs : List ByteArray → List ByteArray → Int
  | a :: as, b :: bs => if cmpS a b = 0 then cmpKs as bs else cmpS a b
  | as, bs => (as.length : Int) - bs.length

mutual
def cmpJ : J → J → Int
  | .num x, .num y => sgn (x - y)
  | .str s, .str t => cmpS s t
  | .arr l, .arr m => sgn (cmpL l m)
  | .obj ks vs, .obj ls ws => if cmpKs ks ls = 0 then sgn (cmpL vs ws) else sgn (cmpKs ks ls)
  | a, b => sgn (a.rank - b.rank)
def cmpL : List J → List J → Int
  | a :: as, b :: bs => if cmpJ a b = 0 then cmpL as bs else cmpJ a b
  | as, bs => (as.length : Int) - bs.length
end

theorem bytesLess_irrefl (l : List UInt8) : Op.bytesLess l l = false := by
  induction l with
  | nil => rfl
  | cons a l ih => simp [Op.bytesLess, ih]

theorem slt_irrefl (a : ByteArray) : slt a a = false := bytesLess_irrefl _

theorem cmpS_self (a : ByteArray) : cmpS a a = 0 := by simp [cmpS, slt_irrefl]

theorem cmpKs_self (l : List ByteArray) : cmpKs l l = 0 := by
  induction l with
  | nil => simp [cmpKs]
  | cons a l ih => simp [cmpKs, cmpS_self, ih]

mutual
theorem cmpJ_self : ∀ a : J, cmpJ a a = 0
  | .null => by simp [cmpJ, sgn]
  | .bool b => by simp [cmpJ, sgn]
  | .num h => by simp [cmpJ, sgn]
  | .str s => by simp [cmpJ, cmpS_self]
  | .arr l => by simp [cmpJ, cmpL_self l, sgn]
  | .obj ks vs => by simp [cmpJ, cmpKs_self, cmpL_self vs, sgn]
theorem cmpL_self : ∀ l : List J, cmpL l l = 0
  | [] => by simp [cmpL]
  | a :: l => by simp [cmpL, cmpJ_self a, cmpL_self l]
end

theorem cmpKs_nil_right (xs : List ByteArray) : cmpKs xs [] = xs.length := by cases xs <;> simp [cmpKs]
theorem cmpKs_nil_left (ys : List ByteArray) : cmpKs [] ys = -(ys.length : Int) := by cases ys <;> simp [cmpKs]
theorem cmpL_nil_right (xs : List J) : cmpL xs [] = xs.length := by cases xs <;> simp [cmpL]
theorem cmpL_nil_left (ys : List J) : cmpL [] ys = -(ys.length : Int) := by cases ys <;> simp [cmpL]

theorem cmpKs_drop (xs ys : List ByteArray) (k : Nat) (h1 : k < xs.length) (h2 : k < ys.length) :
    cmpKs (xs.drop k) (ys.drop k) = if cmpS xs[k] ys[k] = 0 then cmpKs (xs.drop (k + 1)) (ys.drop (k + 1)) else cmpS xs[k] ys[k] := by
  rw [List.drop_eq_getElem_cons h1, List.drop_eq_getElem_cons h2]; rfl
theorem cmpL_drop (xs ys : List J) (k : Nat) (h1 : k < xs.length) (h2 : k < ys.length) :
    cmpL (xs.drop k) (ys.drop k) = if cmpJ xs[k] ys[k] = 0 then cmpL (xs.drop (k + 1)) (ys.drop (k + 1)) else cmpJ xs[k] ys[k] := by
  rw [List.drop_eq_getElem_cons h1, List.drop_eq_getElem_cons h2]; simp only [cmpL]
/-- Behind the end of one list. -/
theorem cmpKs_end (xs ys : List ByteArray) (k : Nat) (h1 : k ≤ xs.length) (h2 : k ≤ ys.length) (h : k = xs.length ∨ k = ys.length) : cmpKs (xs.drop k) (ys.drop k) = (xs.length : Int) - ys.length := by
  rcases h with h | h
  · subst h; rw [List.drop_length, cmpKs_nil_left, List.length_drop]; omega
  · subst h; rw [List.drop_length, cmpKs_nil_right, List.length_drop]; omega
theorem cmpL_end (xs ys : List J) (k : Nat) (h1 : k ≤ xs.length) (h2 : k ≤ ys.length) (h : k = xs.length ∨ k = ys.length) : cmpL (xs.drop k) (ys.drop k) = (xs.length : Int) - ys.length := by
  rcases h with h | h
  · subst h; rw [List.drop_length, cmpL_nil_left, List.length_drop]; omega
  · subst h; rw [List.drop_length, cmpL_nil_right, List.length_drop]; omega

/-- What stands at a key; null where nothing does. -/
def getK : List ByteArray → List J → ByteArray → J
  | k :: ks, v :: vs, s => if k = s then v else getK ks vs s
  | _, _, _ => .null

def hasK (ks : List ByteArray) (s : ByteArray) : Bool := ks.any (fun k => k == s)

/-- Keys rise. -/
def rises : List ByteArray → Prop
  | a :: b :: l => slt a b = true ∧ rises (b :: l)
  | _ => True

#print axioms cmpJ_self
end Go.Gj
