/-
  Keys: their order is total; rising keys are distinct.
-/
import Derived.Test.YtnlndpgbhmkanaaGreatDoorPlB
import Derived.ChangeKeysEq
namespace Go.Gj

theorem bl_trans : ∀ (a b c : List UInt8), Op.bytesLess a b = true → Op.bytesLess b c = true → Op.bytesLess a c = true
  | _, [], _, h, _ => by cases ‹List UInt8› <;> simp [Op.bytesLess] at h
  | _, _ :: _, [], _, h => by simp [Op.bytesLess] at h
  | [], _ :: _, _ :: _, _, _ => by simp [Op.bytesLess]
  | a :: x, b :: y, c :: z, h1, h2 => by
    simp only [Op.bytesLess, Bool.or_eq_true, Bool.and_eq_true, decide_eq_true_eq, beq_iff_eq] at h1 h2 ⊢
    rcases h1 with h1 | ⟨rfl, h1⟩
    · rcases h2 with h2 | ⟨rfl, h2⟩
      · exact .inl (UInt8.lt_trans h1 h2)
      · exact .inl h1
    · rcases h2 with h2 | ⟨rfl, h2⟩
      · exact .inl h2
      · exact .inr ⟨rfl, bl_trans x y z h1 h2⟩

theorem bl_asymm : ∀ (a b : List UInt8), Op.bytesLess a b = true → Op.bytesLess b a = false := by
  intro a b h
  cases h2 : Op.bytesLess b a with
  | false => rfl
  | true => have := bl_trans a b a h h2; rw [bytesLess_irrefl] at this; cases this

theorem bl_total : ∀ (a b : List UInt8), Op.bytesLess a b = false → Op.bytesLess b a = false → a = b
  | [], [], _, _ => rfl
  | [], _ :: _, h, _ => by simp [Op.bytesLess] at h
  | _ :: _, [], _, h => by simp [Op.bytesLess] at h
  | a :: x, b :: y, h1, h2 => by
    simp only [Op.bytesLess, Bool.or_eq_false_iff, Bool.and_eq_false_iff, decide_eq_false_iff_not, beq_eq_false_iff_ne] at h1 h2
    have e : a = b := by
      have p := h1.1; have q := h2.1
      rw [UInt8.lt_iff_toNat_lt] at p q
      exact UInt8.toNat_inj.1 (by omega)
    subst e
    rw [bl_total x y (h1.2.resolve_left (by simp)) (h2.2.resolve_left (by simp))]

theorem slt_trans {a b c : ByteArray} (h1 : slt a b = true) (h2 : slt b c = true) : slt a c = true := bl_trans _ _ _ h1 h2
theorem slt_asymm {a b : ByteArray} (h : slt a b = true) : slt b a = false := bl_asymm _ _ h
theorem ba_toList_inj {a b : ByteArray} (h : a.toList = b.toList) : a = b := by
  rw [ByteArray.toList_eq, ByteArray.toList_eq] at h
  rcases a with ⟨⟨a⟩⟩; rcases b with ⟨⟨b⟩⟩
  simp at h; rw [h]
theorem slt_total {a b : ByteArray} (h1 : slt a b = false) (h2 : slt b a = false) : a = b := ba_toList_inj (bl_total _ _ h1 h2)

theorem cmpS_zero {a b : ByteArray} (h : cmpS a b = 0) : a = b := by
  unfold cmpS at h
  split at h
  · omega
  · split at h
    · rename_i h2; exact ba_toList_inj (by simpa using h2)
    · omega
theorem cmpS_anti (a b : ByteArray) : cmpS b a = -cmpS a b := by
  unfold cmpS
  cases h1 : slt a b with
  | true => 
    rw [slt_asymm h1]
    have hne : ¬ (b.toList == a.toList) = true := by intro e; rw [ba_toList_inj (a := b) (b := a) (by simpa using e), slt_irrefl] at h1; cases h1
    simp [hne]
  | false =>
    cases h2 : slt b a with
    | true => 
      have hne : ¬ (a.toList == b.toList) = true := by intro e; rw [ba_toList_inj (a := a) (b := b) (by simpa using e), slt_irrefl] at h2; cases h2
      simp [hne]
    | false => rw [slt_total h1 h2]; simp

theorem rises_tail {a : ByteArray} {l : List ByteArray} (h : rises (a :: l)) : rises l := by
  cases l with
  | nil => trivial
  | cons b l => exact h.2
theorem rises_all {a : ByteArray} : ∀ {l : List ByteArray}, rises (a :: l) → ∀ x ∈ l, slt a x = true
  | [], _, _, h => by cases h
  | b :: l, h, x, hx => by
    rcases List.mem_cons.1 hx with rfl | hx
    · exact h.1
    · exact slt_trans h.1 (rises_all h.2 x hx)
theorem rises_lt : ∀ {l : List ByteArray}, rises l → ∀ i j (hi : i < j) (hj : j < l.length), slt (l[i]'(by omega)) l[j] = true
  | [], _, _, _, _, hj => by simp at hj
  | a :: l, h, 0, j + 1, _, hj => rises_all h _ (by simp)
  | a :: l, h, i + 1, j + 1, hi, hj => by simpa using rises_lt (rises_tail h) i j (by omega) (by simpa using hj)
theorem rises_nodup : ∀ {l : List ByteArray}, rises l → l.Nodup
  | [], _ => List.nodup_nil
  | a :: l, h => List.nodup_cons.2 ⟨(fun hm => absurd (rises_all h a hm) (by rw [slt_irrefl]; decide)), rises_nodup (rises_tail h)⟩
theorem rises_fresh {l : List ByteArray} (h : rises l) (k : Nat) (hk : k < l.length) : l[k] ∉ l.take k := by
  intro hm
  obtain ⟨i, hi, e⟩ := List.mem_iff_getElem.1 hm
  rw [List.getElem_take] at e
  have hik : i < k := by simp at hi; omega
  have := rises_lt h i k hik hk
  rw [e, slt_irrefl] at this; cases this

theorem sgn_zero {n : Int} (h : sgn n = 0) : n = 0 := by
  unfold sgn at h
  split at h
  · omega
  · split at h <;> omega

mutual
/-- The order tells values apart. -/
theorem cmpJ_zero : ∀ a b : J, a.ok → b.ok → cmpJ a b = 0 → a = b
  | .num x, .num y, _, _, h => by
    have h : sgn (x - y) = 0 := by simpa only [cmpJ] using h
    have := sgn_zero h
    rw [show x = y by omega]
  | .str s, .str t, _, _, h => by
    have h : cmpS s t = 0 := by simpa only [cmpJ] using h
    rw [cmpS_zero h]
  | .arr l, .arr m, ha, hb, h => by
    have : cmpL l m = 0 := sgn_zero (by simpa only [cmpJ] using h)
    rw [cmpL_zero l m ha.2 hb.2 this]
  | .obj ks vs, .obj ls ws, ha, hb, h => by
    simp only [cmpJ] at h
    by_cases e : cmpKs ks ls = 0
    · rw [if_pos e] at h
      have h2 : cmpL vs ws = 0 := sgn_zero h
      rw [cmpKs_zero ks ls e, cmpL_zero vs ws ha.2.2.2.2 hb.2.2.2.2 h2]
    · rw [if_neg e] at h; exact absurd (sgn_zero h) e
  | .null, .null, _, _, h => rfl
  | .null, .bool false, _, _, h | .null, .bool true, _, _, h | .null, .num _, _, _, h | .null, .str _, _, _, h | .null, .arr _, _, _, h | .null, .obj _ _, _, _, h => by simp [cmpJ, J.rank, sgn] at h
  | .bool false, .bool false, _, _, h => rfl
  | .bool false, .null, _, _, h | .bool false, .bool true, _, _, h | .bool false, .num _, _, _, h | .bool false, .str _, _, _, h | .bool false, .arr _, _, _, h | .bool false, .obj _ _, _, _, h => by simp [cmpJ, J.rank, sgn] at h
  | .bool true, .bool true, _, _, h => rfl
  | .bool true, .null, _, _, h | .bool true, .bool false, _, _, h | .bool true, .num _, _, _, h | .bool true, .str _, _, _, h | .bool true, .arr _, _, _, h | .bool true, .obj _ _, _, _, h => by simp [cmpJ, J.rank, sgn] at h
  | .num _, .null, _, _, h | .num _, .bool false, _, _, h | .num _, .bool true, _, _, h | .num _, .str _, _, _, h | .num _, .arr _, _, _, h | .num _, .obj _ _, _, _, h => by simp [cmpJ, J.rank, sgn] at h
  | .str _, .null, _, _, h | .str _, .bool false, _, _, h | .str _, .bool true, _, _, h | .str _, .num _, _, _, h | .str _, .arr _, _, _, h | .str _, .obj _ _, _, _, h => by simp [cmpJ, J.rank, sgn] at h
  | .arr _, .null, _, _, h | .arr _, .bool false, _, _, h | .arr _, .bool true, _, _, h | .arr _, .num _, _, _, h | .arr _, .str _, _, _, h | .arr _, .obj _ _, _, _, h => by simp [cmpJ, J.rank, sgn] at h
  | .obj _ _, .null, _, _, h | .obj _ _, .bool false, _, _, h | .obj _ _, .bool true, _, _, h | .obj _ _, .num _, _, _, h | .obj _ _, .str _, _, _, h | .obj _ _, .arr _, _, _, h => by simp [cmpJ, J.rank, sgn] at h
theorem cmpL_zero : ∀ l m : List J, J.oks l → J.oks m → cmpL l m = 0 → l = m
  | [], [], _, _, _ => rfl
  | [], _ :: _, _, _, h => by simp [cmpL] at h; omega
  | _ :: _, [], _, _, h => by simp [cmpL] at h; omega
  | a :: l, b :: m, ha, hb, h => by
    simp only [cmpL] at h
    by_cases e : cmpJ a b = 0
    · rw [if_pos e] at h
      rw [cmpJ_zero a b ha.1 hb.1 e, cmpL_zero l m ha.2 hb.2 h]
    · rw [if_neg e] at h; exact absurd h e
theorem cmpKs_zero : ∀ l m : List ByteArray, cmpKs l m = 0 → l = m
  | [], [], _ => rfl
  | [], _ :: _, h => by simp [cmpKs] at h; omega
  | _ :: _, [], h => by simp [cmpKs] at h; omega
  | a :: l, b :: m, h => by
    simp only [cmpKs] at h
    by_cases e : cmpS a b = 0
    · rw [if_pos e] at h
      rw [cmpS_zero e, cmpKs_zero l m h]
    · rw [if_neg e] at h; exact absurd h e
end
end Go.Gj

/-
  What stands at a key, and at a path: plain data alone.
-/
namespace Go.Gj

/-- What stands at a key: of gojq's getpath, and of its index but for a text at a number. None: an error. -/
def idxJ : J → J → Option J
  | .null, _ => some .null
  | .obj ks vs, .str s => some (getK ks vs s)
  | .arr l, .num h => some (l.getD (h / 2).toNat .null)
  | _, _ => none

/-- A text at a number: of that the reference says nothing. -/
def strange : J → J → Bool
  | .str _, .num _ => true
  | _, _ => false

def keyOk : J → Prop
  | .str _ => True
  | .num h => 0 ≤ h ∧ h ≤ 200 ∧ h % 2 = 0
  | _ => False

def getJ : J → List J → Option J
  | v, [] => some v
  | v, k :: p => (idxJ v k).bind fun x => getJ x p

/-- Of a way the reference says nothing. -/
def silJ : J → List J → Bool
  | _, [] => false
  | v, k :: p => strange v k || match idxJ v k with
    | some x => silJ x p
    | none => false

theorem getK_okn {n : Nat} : ∀ (ks : List ByteArray) (vs : List J) (s : ByteArray), (∀ y ∈ vs, y.okn n) → (getK ks vs s).okn n
  | [], _, _, _ => trivial
  | _ :: _, [], _, _ => trivial
  | k :: ks, v :: vs, s, h => by
    unfold getK
    split
    · exact h v List.mem_cons_self
    · exact getK_okn ks vs s fun y hy => h y (List.mem_cons_of_mem _ hy)

theorem getD_okn {n : Nat} (l : List J) (i : Nat) (h : ∀ y ∈ l, y.okn n) : (l.getD i .null).okn n := by
  by_cases hi : i < l.length
  · rw [List.getD_eq_getElem?_getD, List.getElem?_eq_getElem hi]; exact h _ (List.getElem_mem _)
  · rw [List.getD_eq_getElem?_getD, List.getElem?_eq_none (by omega)]; trivial

theorem idxJ_okn {n : Nat} {v k x : J} (hv : v.okn n) (h : idxJ v k = some x) : x.okn n := by
  cases v with
  | null => simp only [idxJ, Option.some.injEq] at h; subst h; trivial
  | bool b => cases k <;> simp [idxJ] at h
  | num m => cases k <;> simp [idxJ] at h
  | str s => cases k <;> simp [idxJ] at h
  | arr l =>
    cases k with
    | num m =>
      simp only [idxJ, Option.some.injEq] at h
      subst h
      exact getD_okn l _ ((oksn_iff n l).1 hv.2)
    | _ => simp [idxJ] at h
  | obj ks vs =>
    cases k with
    | str s =>
      simp only [idxJ, Option.some.injEq] at h
      subst h
      exact getK_okn ks vs _ ((oksn_iff n vs).1 hv.2.2.2.2)
    | _ => simp [idxJ] at h

theorem getJ_okn {n : Nat} : ∀ (p : List J) (v x : J), v.okn n → getJ v p = some x → x.okn n
  | [], v, x, hv, h => by simp only [getJ, Option.some.injEq] at h; subst h; exact hv
  | k :: p, v, x, hv, h => by
    unfold getJ at h
    obtain ⟨y, hy, h⟩ := Option.bind_eq_some_iff.1 h
    exact getJ_okn p y x (idxJ_okn hv hy) h

theorem getJ_drop (v : J) (p : List J) (k : Nat) (hk : k < p.length) : getJ v (p.drop k) = (idxJ v p[k]).bind fun x => getJ x (p.drop (k + 1)) := by
  rw [List.drop_eq_getElem_cons hk]
  rfl
theorem silJ_drop (v : J) (p : List J) (k : Nat) (hk : k < p.length) : silJ v (p.drop k) = (strange v p[k] || match idxJ v p[k] with
    | some x => silJ x (p.drop (k + 1))
    | none => false) := by
  rw [List.drop_eq_getElem_cons hk]
  rfl

/-- The place of a key. -/
def placeK : List ByteArray → ByteArray → Nat
  | [], _ => 0
  | k :: ks, s => if slt k s then placeK ks s + 1 else 0

theorem getK_none : ∀ (ks : List ByteArray) (vs : List J) (s : ByteArray), s ∉ ks → getK ks vs s = .null
  | [], _, _, _ => rfl
  | _ :: _, [], _, _ => rfl
  | k :: ks, v :: vs, s, h => by
    unfold getK
    rw [if_neg (fun e => h (by subst e; exact List.mem_cons_self)), getK_none ks vs s fun hm => h (List.mem_cons_of_mem _ hm)]

theorem getK_at : ∀ (ks : List ByteArray) (vs : List J), ks.Nodup → ∀ i (hi : i < ks.length) (hv : i < vs.length), getK ks vs ks[i] = vs[i]
  | k :: ks, v :: vs, h, 0, _, _ => by simp [getK]
  | k :: ks, v :: vs, h, i + 1, hi, hv => by
    have hne : k ≠ ks[i]'(by simpa using hi) := fun e => (List.nodup_cons.1 h).1 (e ▸ List.getElem_mem _)
    simp only [List.getElem_cons_succ, getK]
    rw [if_neg hne]
    exact getK_at ks vs (List.nodup_cons.1 h).2 i (by simpa using hi) (by simpa using hv)

theorem placeK_le : ∀ (ks : List ByteArray) (s : ByteArray), placeK ks s ≤ ks.length
  | [], _ => Nat.le_refl _
  | k :: ks, s => by
    unfold placeK
    have := placeK_le ks s
    split <;> simp <;> omega

/-- All before the place are less. -/
theorem placeK_lt : ∀ (ks : List ByteArray) (s : ByteArray) (i : Nat) (hi : i < ks.length), i < placeK ks s → slt ks[i] s = true
  | k :: ks, s, i, hi, h => by
    unfold placeK at h
    split at h
    · rename_i hk
      cases i with
      | zero => exact hk
      | succ i => exact placeK_lt ks s i (by simpa using hi) (by omega)
    · omega

theorem placeK_stop : ∀ (ks : List ByteArray) (s : ByteArray) (h : placeK ks s < ks.length), slt ks[placeK ks s] s = false
  | k :: ks, s, h => by
    by_cases hk : slt k s = true
    · have e : placeK (k :: ks) s = placeK ks s + 1 := by simp [placeK, hk]
      have := placeK_stop ks s (by rw [e] at h; simpa using h)
      simp only [e, List.getElem_cons_succ]
      exact this
    · have e : placeK (k :: ks) s = 0 := by simp [placeK, hk]
      simp only [e, List.getElem_cons_zero]
      simpa using hk

/-- A place up to which all are less, and which is not: it is the place. -/
theorem placeK_eq (ks : List ByteArray) (s : ByteArray) (k : Nat) (hk : k ≤ ks.length) (h1 : ∀ i (hi : i < ks.length), i < k → slt ks[i] s = true) (h2 : k = ks.length ∨ ∃ h : k < ks.length, slt ks[k] s = false) : k = placeK ks s := by
  have hle := placeK_le ks s
  rcases Nat.lt_trichotomy k (placeK ks s) with h | h | h
  · rcases h2 with h2 | ⟨hl, h2⟩
    · omega
    · rw [placeK_lt ks s k hl h] at h2; cases h2
  · exact h
  · have := h1 (placeK ks s) (by omega) h
    rw [placeK_stop ks s (by omega)] at this; cases this

theorem mem_place {ks : List ByteArray} {s : ByteArray} (hr : rises ks) : s ∈ ks ↔ ∃ h : placeK ks s < ks.length, ks[placeK ks s] = s := by
  constructor
  · intro hm
    obtain ⟨i, hi, he⟩ := List.getElem_of_mem hm
    have e : i = placeK ks s := placeK_eq ks s i (by omega) (fun j hj hji => by rw [← he]; exact rises_lt hr j i hji hi) (.inr ⟨hi, by rw [he]; exact slt_irrefl s⟩)
    subst e
    exact ⟨hi, he⟩
  · rintro ⟨h, he⟩
    rw [← he]; exact List.getElem_mem _

theorem getK_place {ks : List ByteArray} {vs : List J} {s : ByteArray} (hr : rises ks) (hl : ks.length = vs.length) (h : placeK ks s < ks.length) (he : ks[placeK ks s] = s) : getK ks vs s = vs[placeK ks s]'(by omega) := by
  have := getK_at ks vs (rises_nodup hr) (placeK ks s) h (by omega)
  rwa [he] at this
theorem getK_noplace {ks : List ByteArray} {vs : List J} {s : ByteArray} (hr : rises ks) (h : ¬ ∃ h : placeK ks s < ks.length, ks[placeK ks s] = s) : getK ks vs s = .null :=
  getK_none ks vs s fun hm => h ((mem_place hr).1 hm)

end Go.Gj
