/-
  What is set at a path: plain data alone.
-/
import Derived.Test.YtnlndpgbhmkanaaGreatDoorPlP
namespace Go.Gj

/-- An object's keys and values, with a value at a key. -/
def putK : List ByteArray → List J → ByteArray → J → List ByteArray × List J
  | k :: ks, v :: vs, s, u =>
    if slt k s then (k :: (putK ks vs s u).1, v :: (putK ks vs s u).2) else if k = s then (k :: ks, u :: vs) else (s :: k :: ks, u :: v :: vs)
  | _, _, s, u => ([s], [u])

/-- A list with a value at a place; nulls between. -/
def setAt (l : List J) (i : Nat) (u : J) : List J := if i < l.length then l.set i u else l ++ List.replicate (i - l.length) .null ++ [u]

def setJ : J → List J → J → Option J
  | _, [], n => some n
  | .null, .str s :: p, n => (setJ .null p n).map fun u => .obj [s] [u]
  | .obj ks vs, .str s :: p, n => (setJ (getK ks vs s) p n).map fun u => .obj (putK ks vs s u).1 (putK ks vs s u).2
  | .null, .num h :: p, n => (setJ .null p n).map fun u => .arr (setAt [] (h / 2).toNat u)
  | .arr l, .num h :: p, n => (setJ (l.getD (h / 2).toNat .null) p n).map fun u => .arr (setAt l (h / 2).toNat u)
  | _, _, _ => none

theorem getK_putK : ∀ (ks : List ByteArray) (vs : List J) (s : ByteArray) (u : J), getK (putK ks vs s u).1 (putK ks vs s u).2 s = u
  | [], _, s, u => by simp [putK, getK]
  | _ :: _, [], s, u => by simp [putK, getK]
  | k :: ks, v :: vs, s, u => by
    unfold putK
    split
    · rename_i h
      have hne : k ≠ s := by rintro rfl; rw [slt_irrefl] at h; cases h
      simp only [getK, if_neg hne]
      exact getK_putK ks vs s u
    · split
      · simp [getK, *]
      · simp [getK]

theorem putK_putK : ∀ (ks : List ByteArray) (vs : List J) (s : ByteArray) (u u' : J), putK (putK ks vs s u).1 (putK ks vs s u).2 s u' = putK ks vs s u'
  | [], _, s, u, u' => by simp [putK, slt_irrefl]
  | _ :: _, [], s, u, u' => by simp [putK, slt_irrefl]
  | k :: ks, v :: vs, s, u, u' => by
    by_cases h : slt k s = true
    · have e : ∀ z, putK (k :: ks) (v :: vs) s z = (k :: (putK ks vs s z).1, v :: (putK ks vs s z).2) := fun z => by simp only [putK, h, if_true]
      rw [e, e]
      simp only [putK, h, if_true]
      rw [putK_putK ks vs s u u']
    · by_cases hk : k = s
      · subst hk
        simp [putK, slt_irrefl]
      · have e : ∀ z, putK (k :: ks) (v :: vs) s z = (s :: k :: ks, z :: v :: vs) := fun z => by simp [putK, h, hk]
        rw [e, e]
        simp [putK, slt_irrefl]

theorem setAt_get (l : List J) (i : Nat) (u : J) : (setAt l i u).getD i .null = u := by
  unfold setAt
  split
  · rename_i h; simp [List.getD_eq_getElem?_getD, h]
  · rename_i h
    rw [List.getD_eq_getElem?_getD, List.getElem?_append_right (by simp; omega)]
    have : i - (l ++ List.replicate (i - l.length) J.null).length = 0 := by simp; omega
    rw [this]; rfl

theorem setAt_setAt (l : List J) (i : Nat) (u u' : J) : setAt (setAt l i u) i u' = setAt l i u' := by
  by_cases h : i < l.length
  · simp [setAt, h]
  · have hl : (l ++ List.replicate (i - l.length) J.null).length = i := by simp; omega
    have e : ∀ z, setAt l i z = l ++ List.replicate (i - l.length) .null ++ [z] := fun z => by simp only [setAt, h, if_false]
    rw [e, e]
    unfold setAt
    rw [if_pos (by rw [List.length_append, hl]; simp)]
    rw [List.set_append_right _ _ (by omega)]
    simp [hl]

theorem getD_nil (i : Nat) : ([] : List J).getD i .null = .null := by simp [List.getD]

/-- Whether it can be set does not hang on the value. -/
theorem setJ_none : ∀ (p : List J) (v x y : J), (setJ v p x = none) → (setJ v p y = none)
  | [], v, x, y, h => by cases v <;> simp [setJ] at h
  | k :: p, v, x, y, h => by
    cases v <;> cases k <;> simp only [setJ, Option.map_eq_none_iff] at h ⊢
    all_goals exact setJ_none p _ x y h

/-- Of two values that are set at one path the second one counts. -/
theorem setJ_twice : ∀ (p : List J) (v x y r : J), setJ v p x = some r → setJ r p y = setJ v p y
  | [], v, x, y, r, h => by cases v <;> cases r <;> simp [setJ]
  | k :: p, v, x, y, r, h => by
    cases v <;> cases k <;> simp only [setJ, Option.map_eq_some_iff, reduceCtorEq] at h
    all_goals obtain ⟨u, hu, rfl⟩ := h
    all_goals have ih := setJ_twice p _ x y u hu
    · simp only [setJ, setAt_get, ih, setAt_setAt]
    · rename_i s
      have e1 : getK [s] [u] s = u := getK_putK [] [] s u
      have e2 : ∀ z, putK [s] [u] s z = ([s], [z]) := fun z => putK_putK [] [] s u z
      simp only [setJ, e1, ih, e2]
    · simp only [setJ, setAt_get, ih, setAt_setAt]
    · simp only [setJ, getK_putK, ih, putK_putK]

/-- What was set stands there. -/
theorem setJ_get : ∀ (p : List J) (v y s : J), setJ v p y = some s → getJ s p = some y
  | [], v, y, s, h => by cases v <;> simp [setJ] at h <;> simp [getJ, h]
  | k :: p, v, y, s, h => by
    cases v <;> cases k <;> simp only [setJ, Option.map_eq_some_iff, reduceCtorEq] at h
    all_goals obtain ⟨u, hu, rfl⟩ := h
    all_goals have ih := setJ_get p _ y u hu
    · simp only [getJ, idxJ, setAt_get, Option.bind_some, ih]
    · rename_i s
      have e1 : getK [s] [u] s = u := getK_putK [] [] s u
      simp only [getJ, idxJ, Option.bind_some, e1, ih]
    · simp only [getJ, idxJ, setAt_get, Option.bind_some, ih]
    · simp only [getJ, idxJ, getK_putK, Option.bind_some, ih]

/-! ### bounds -/
theorem putK_length : ∀ (ks : List ByteArray) (vs : List J) (s : ByteArray) (u : J), ks.length = vs.length → (putK ks vs s u).1.length = (putK ks vs s u).2.length ∧ (putK ks vs s u).1.length ≤ ks.length + 1
  | [], [], s, u, _ => by simp [putK]
  | [], _ :: _, s, u, h => by simp at h
  | _ :: _, [], s, u, h => by simp at h
  | k :: ks, v :: vs, s, u, h => by
    have ih := putK_length ks vs s u (by simpa using h)
    simp only [List.length_cons, Nat.add_right_cancel_iff] at h
    unfold putK
    split
    · simp; omega
    · split <;> simp <;> omega

theorem putK_keys : ∀ (ks : List ByteArray) (vs : List J) (s : ByteArray) (u : J), ks.length = vs.length → ∀ k, k ∈ (putK ks vs s u).1 ↔ (k ∈ ks ∨ k = s)
  | [], [], s, u, _, k => by simp [putK]
  | [], _ :: _, s, u, h, k => by simp at h
  | _ :: _, [], s, u, h, k => by simp at h
  | a :: ks, v :: vs, s, u, h, k => by
    have ih := putK_keys ks vs s u (by simpa using h) k
    unfold putK
    split
    · simp only [List.mem_cons, ih, or_assoc]
    · split
      · rename_i he; subst he; simp only [List.mem_cons]; constructor
        · rintro (h | h)
          · exact .inr h
          · exact .inl (.inr h)
        · rintro ((h | h) | h)
          · exact .inl h
          · exact .inr h
          · exact .inl h
      · simp only [List.mem_cons]; constructor
        · rintro (h | h | h) <;> simp [h]
        · rintro ((h | h) | h) <;> simp [h]

theorem putK_vals {n : Nat} : ∀ (ks : List ByteArray) (vs : List J) (s : ByteArray) (u : J), u.okn n → (∀ y ∈ vs, y.okn n) → ∀ y ∈ (putK ks vs s u).2, y.okn n
  | [], _, s, u, hu, hv, y, hy => by simp only [putK, List.mem_singleton] at hy; subst hy; exact hu
  | _ :: _, [], s, u, hu, hv, y, hy => by simp only [putK, List.mem_singleton] at hy; subst hy; exact hu
  | k :: ks, v :: vs, s, u, hu, hv, y, hy => by
    have ih := putK_vals ks vs s u hu (fun y hy => hv y (List.mem_cons_of_mem _ hy)) y
    unfold putK at hy
    split at hy
    · rcases List.mem_cons.1 hy with rfl | hy
      · exact hv _ List.mem_cons_self
      · exact ih hy
    · split at hy
      · rcases List.mem_cons.1 hy with rfl | hy
        · exact hu
        · exact hv _ (List.mem_cons_of_mem _ hy)
      · rcases List.mem_cons.1 hy with rfl | hy
        · exact hu
        · exact hv _ hy

theorem rises_cons {a : ByteArray} {l : List ByteArray} (h : rises l) (hall : ∀ x ∈ l, slt a x = true) : rises (a :: l) := by
  cases l with
  | nil => trivial
  | cons b l => exact ⟨hall b List.mem_cons_self, h⟩

theorem putK_rises : ∀ (ks : List ByteArray) (vs : List J) (s : ByteArray) (u : J), ks.length = vs.length → rises ks → rises (putK ks vs s u).1
  | [], [], s, u, _, _ => by simp [putK, rises]
  | [], _ :: _, s, u, h, _ => by simp at h
  | _ :: _, [], s, u, h, _ => by simp at h
  | a :: ks, v :: vs, s, u, h, hr => by
    have hl : ks.length = vs.length := by simpa using h
    have ih := putK_rises ks vs s u hl (rises_tail hr)
    unfold putK
    split
    · rename_i hs
      refine rises_cons ih fun x hx => ?_
      rcases (putK_keys ks vs s u hl x).1 hx with hx | rfl
      · exact rises_all hr x hx
      · exact hs
    · split
      · exact hr
      · rename_i h1 h2
        refine rises_cons hr fun x hx => ?_
        have hsa : slt s a = true := by
          cases hq : slt s a with
          | true => rfl
          | false => exact absurd (slt_total (by simpa using h1) hq) h2
        rcases List.mem_cons.1 hx with rfl | hx
        · exact hsa
        · exact slt_trans hsa (rises_all hr x hx)

theorem setAt_length (l : List J) (i : Nat) (u : J) : (setAt l i u).length = max l.length (i + 1) := by
  unfold setAt
  split
  · rw [List.length_set]; omega
  · simp; omega

theorem setAt_vals {n : Nat} (l : List J) (i : Nat) (u : J) (hu : u.okn n) (hl : ∀ y ∈ l, y.okn n) : ∀ y ∈ setAt l i u, y.okn n := by
  intro y hy
  unfold setAt at hy
  split at hy
  · rcases List.mem_or_eq_of_mem_set hy with h | rfl
    · exact hl y h
    · exact hu
  · simp only [List.append_assoc, List.mem_append, List.mem_replicate, List.mem_singleton] at hy
    rcases hy with h | ⟨_, rfl⟩ | rfl
    · exact hl y h
    · trivial
    · exact hu

theorem key_num {h : Int} (hk : keyOk (.num h)) : (h / 2).toNat ≤ 100 := by
  obtain ⟨h1, h2, _⟩ := hk
  omega

/-- What comes of a set is within bounds, one wider. -/
theorem setJ_okn {n : Nat} (hn : 2000 ≤ n) : ∀ (p : List J) (v x r : J), (∀ k ∈ p, keyOk k ∧ k.okn n) → v.okn n → x.okn (n + 1) → setJ v p x = some r → r.okn (n + 1)
  | [], v, x, r, _, _, hx, h => by cases v <;> simp [setJ] at h <;> (subst h; exact hx)
  | k :: p, v, x, r, hp, hv, hx, h => by
    have hk := (hp k List.mem_cons_self).1
    have hkn := (hp k List.mem_cons_self).2
    have hp' : ∀ k ∈ p, keyOk k ∧ k.okn n := fun k hk => hp k (List.mem_cons_of_mem _ hk)
    cases v <;> cases k <;> simp only [setJ, Option.map_eq_some_iff, reduceCtorEq] at h
    all_goals obtain ⟨u, hu, rfl⟩ := h
    · have ih := setJ_okn hn p .null x u hp' trivial hx hu
      have := key_num hk
      exact ⟨by rw [setAt_length]; simp; omega, (oksn_iff _ _).2 (setAt_vals _ _ _ ih fun y hy => by cases hy)⟩
    · have ih := setJ_okn hn p .null x u hp' trivial hx hu
      refine ⟨rfl, by simp, trivial, fun k hk => ?_, ih, trivial⟩
      simp only [List.mem_singleton] at hk
      subst hk
      exact Nat.le_trans hkn (by omega)
    · rename_i l m
      have hl := (oksn_iff _ _).1 hv.2
      have ih := setJ_okn hn p _ x u hp' (getD_okn l _ hl) hx hu
      have := key_num hk
      have h1 := hv.1
      exact ⟨by rw [setAt_length]; omega, (oksn_iff _ _).2 (setAt_vals _ _ _ ih fun y hy => okn_mono (by omega) y (hl y hy))⟩
    · rename_i ks vs s
      obtain ⟨h1, h2, h3, h4, h5⟩ := hv
      have hl := (oksn_iff _ _).1 h5
      have ih := setJ_okn hn p _ x u hp' (getK_okn ks vs _ hl) hx hu
      have hpl := putK_length ks vs s u h1
      refine ⟨hpl.1, by omega, putK_rises ks vs s u h1 h3, fun k hk => ?_, (oksn_iff _ _).2 (putK_vals ks vs s u ih fun y hy => okn_mono (by omega) y (hl y hy))⟩
      rcases (putK_keys ks vs s u h1 k).1 hk with hk | rfl
      · exact Nat.le_trans (h4 k hk) (by omega)
      · exact Nat.le_trans hkn (by omega)
#print axioms setJ_okn
end Go.Gj
