/-
  What stands at a key, and at a path: plain data alone.
-/
import Derived.Test.YtnlndpgbhmkanaaGreatDoorPlB
import Derived.Test.YtnlndpgbhmkanaaGreatDoorPlK
namespace Go.Gj

/-- What stands at a key: of gojq's getpath, and of its index but for a text at a number. None: an error. -/
def idxJ : J → J → Option J
  | .null, _ => some .null
  | .obj ks vs, .str s => some (getK ks vs s)
  | .arr l, .num h => some (l.getD (h / 2).toNat .null)
  | _, _ => none

/-- A text at a number: of that the reference says nothing. -/
def strange : J → J → Bool
  | .str _, .num _ => true
  | _, _ => false

def keyOk : J → Prop
  | .str _ => True
  | .num h => 0 ≤ h ∧ h ≤ 200 ∧ h % 2 = 0
  | _ => False

def getJ : J → List J → Option J
  | v, [] => some v
  | v, k :: p => (idxJ v k).bind fun x => getJ x p

/-- Of a way the reference says nothing. -/
def silJ : J → List J → Bool
  | _, [] => false
  | v, k :: p => strange v k || match idxJ v k with
    | some x => silJ x p
    | none => false

theorem getK_okn {n : Nat} : ∀ (ks : List ByteArray) (vs : List J) (s : ByteArray), (∀ y ∈ vs, y.okn n) → (getK ks vs s).okn n
  | [], _, _, _ => trivial
  | _ :: _, [], _, _ => trivial
  | k :: ks, v :: vs, s, h => by
    unfold getK
    split
    · exact h v List.mem_cons_self
    · exact getK_okn ks vs s fun y hy => h y (List.mem_cons_of_mem _ hy)

theorem getD_okn {n : Nat} (l : List J) (i : Nat) (h : ∀ y ∈ l, y.okn n) : (l.getD i .null).okn n := by
  by_cases hi : i < l.length
  · rw [List.getD_eq_getElem?_getD, List.getElem?_eq_getElem hi]; exact h _ (List.getElem_mem _)
  · rw [List.getD_eq_getElem?_getD, List.getElem?_eq_none (by omega)]; trivial

theorem idxJ_okn {n : Nat} {v k x : J} (hv : v.okn n) (h : idxJ v k = some x) : x.okn n := by
  cases v with
  | null => simp only [idxJ, Option.some.injEq] at h; subst h; trivial
  | bool b => cases k <;> simp [idxJ] at h
  | num m => cases k <;> simp [idxJ] at h
  | str s => cases k <;> simp [idxJ] at h
  | arr l =>
    cases k with
    | num m =>
      simp only [idxJ, Option.some.injEq] at h
      subst h
      exact getD_okn l _ ((oksn_iff n l).1 hv.2)
    | _ => simp [idxJ] at h
  | obj ks vs =>
    cases k with
    | str s =>
      simp only [idxJ, Option.some.injEq] at h
      subst h
      exact getK_okn ks vs _ ((oksn_iff n vs).1 hv.2.2.2.2)
    | _ => simp [idxJ] at h

theorem getJ_okn {n : Nat} : ∀ (p : List J) (v x : J), v.okn n → getJ v p = some x → x.okn n
  | [], v, x, hv, h => by simp only [getJ, Option.some.injEq] at h; subst h; exact hv
  | k :: p, v, x, hv, h => by
    unfold getJ at h
    obtain ⟨y, hy, h⟩ := Option.bind_eq_some_iff.1 h
    exact getJ_okn p y x (idxJ_okn hv hy) h

theorem getJ_drop (v : J) (p : List J) (k : Nat) (hk : k < p.length) : getJ v (p.drop k) = (idxJ v p[k]).bind fun x => getJ x (p.drop (k + 1)) := by
  rw [List.drop_eq_getElem_cons hk]
  rfl
theorem silJ_drop (v : J) (p : List J) (k : Nat) (hk : k < p.length) : silJ v (p.drop k) = (strange v p[k] || match idxJ v p[k] with
    | some x => silJ x (p.drop (k + 1))
    | none => false) := by
  rw [List.drop_eq_getElem_cons hk]
  rfl

/-- The place of a key. -/
def placeK : List ByteArray → ByteArray → Nat
  | [], _ => 0
  | k :: ks, s => if slt k s then placeK ks s + 1 else 0

theorem getK_none : ∀ (ks : List ByteArray) (vs : List J) (s : ByteArray), s ∉ ks → getK ks vs s = .null
  | [], _, _, _ => rfl
  | _ :: _, [], _, _ => rfl
  | k :: ks, v :: vs, s, h => by
    unfold getK
    rw [if_neg (fun e => h (by subst e; exact List.mem_cons_self)), getK_none ks vs s fun hm => h (List.mem_cons_of_mem _ hm)]

theorem getK_at : ∀ (ks : List ByteArray) (vs : List J), ks.Nodup → ∀ i (hi : i < ks.length) (hv : i < vs.length), getK ks vs ks[i] = vs[i]
  | k :: ks, v :: vs, h, 0, _, _ => by simp [getK]
  | k :: ks, v :: vs, h, i + 1, hi, hv => by
    have hne : k ≠ ks[i]'(by simpa using hi) := fun e => (List.nodup_cons.1 h).1 (e ▸ List.getElem_mem _)
    simp only [List.getElem_cons_succ, getK]
    rw [if_neg hne]
    exact getK_at ks vs (List.nodup_cons.1 h).2 i (by simpa using hi) (by simpa using hv)

theorem placeK_le : ∀ (ks : List ByteArray) (s : ByteArray), placeK ks s ≤ ks.length
  | [], _ => Nat.le_refl _
  | k :: ks, s => by
    unfold placeK
    have := placeK_le ks s
    split <;> simp <;> omega

/-- All before the place are less. -/
theorem placeK_lt : ∀ (ks : List ByteArray) (s : ByteArray) (i : Nat) (hi : i < ks.length), i < placeK ks s → slt ks[i] s = true
  | k :: ks, s, i, hi, h => by
    unfold placeK at h
    split at h
    · rename_i hk
      cases i with
      | zero => exact hk
      | succ i => exact placeK_lt ks s i (by simpa using hi) (by omega)
    · omega

theorem placeK_stop : ∀ (ks : List ByteArray) (s : ByteArray) (h : placeK ks s < ks.length), slt ks[placeK ks s] s = false
  | k :: ks, s, h => by
    by_cases hk : slt k s = true
    · have e : placeK (k :: ks) s = placeK ks s + 1 := by simp [placeK, hk]
      have := placeK_stop ks s (by rw [e] at h; simpa using h)
      simp only [e, List.getElem_cons_succ]
      exact this
    · have e : placeK (k :: ks) s = 0 := by simp [placeK, hk]
      simp only [e, List.getElem_cons_zero]
      simpa using hk

/-- A place up to which all are less, and which is not: it is the place. -/
theorem placeK_eq (ks : List ByteArray) (s : ByteArray) (k : Nat) (hk : k ≤ ks.length) (h1 : ∀ i (hi : i < ks.length), i < k → slt ks[i] s = true) (h2 : k = ks.length ∨ ∃ h : k < ks.length, slt ks[k] s = false) : k = placeK ks s := by
  have hle := placeK_le ks s
  rcases Nat.lt_trichotomy k (placeK ks s) with h | h | h
  · rcases h2 with h2 | ⟨hl, h2⟩
    · omega
    · rw [placeK_lt ks s k hl h] at h2; cases h2
  · exact h
  · have := h1 (placeK ks s) (by omega) h
    rw [placeK_stop ks s (by omega)] at this; cases this

theorem mem_place {ks : List ByteArray} {s : ByteArray} (hr : rises ks) : s ∈ ks ↔ ∃ h : placeK ks s < ks.length, ks[placeK ks s] = s := by
  constructor
  · intro hm
    obtain ⟨i, hi, he⟩ := List.getElem_of_mem hm
    have e : i = placeK ks s := placeK_eq ks s i (by omega) (fun j hj hji => by rw [← he]; exact rises_lt hr j i hji hi) (.inr ⟨hi, by rw [he]; exact slt_irrefl s⟩)
    subst e
    exact ⟨hi, he⟩
  · rintro ⟨h, he⟩
    rw [← he]; exact List.getElem_mem _

theorem getK_place {ks : List ByteArray} {vs : List J} {s : ByteArray} (hr : rises ks) (hl : ks.length = vs.length) (h : placeK ks s < ks.length) (he : ks[placeK ks s] = s) : getK ks vs s = vs[placeK ks s]'(by omega) := by
  have := getK_at ks vs (rises_nodup hr) (placeK ks s) h (by omega)
  rwa [he] at this
theorem getK_noplace {ks : List ByteArray} {vs : List J} {s : ByteArray} (hr : rises ks) (h : ¬ ∃ h : placeK ks s < ks.length, ks[placeK ks s] = s) : getK ks vs s = .null :=
  getK_none ks vs s fun hm => h ((mem_place hr).1 hm)

end Go.Gj
