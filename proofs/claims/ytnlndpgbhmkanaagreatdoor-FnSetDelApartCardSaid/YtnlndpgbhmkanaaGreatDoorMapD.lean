/-
  What is deleted at a path that ends in a key: plain data alone; set and delete apart.
-/
import Derived.Test.YtnlndpgbhmkanaaGreatDoorPlS
import Derived.Test.YtnlndpgbhmkanaaGreatDoorLookL
import Derived.Maps.RangeRun
namespace Go.Gj
set_option linter.unusedSimpArgs false

/-- An object without a key. -/
def delK : List ByteArray → List J → ByteArray → List ByteArray × List J
  | k :: ks, v :: vs, s => if k = s then (ks, vs) else (k :: (delK ks vs s).1, v :: (delK ks vs s).2)
  | _, _, _ => ([], [])

theorem delK_length : ∀ (ks : List ByteArray) (vs : List J) (s : ByteArray), ks.length = vs.length → (delK ks vs s).1.length = (delK ks vs s).2.length
  | [], [], s, _ => rfl
  | [], _ :: _, s, h => by simp at h
  | _ :: _, [], s, h => by simp at h
  | k :: ks, v :: vs, s, h => by
    have ih := delK_length ks vs s (by simpa using h)
    unfold delK
    split
    · simpa using h
    · simp [ih]

theorem delK_sub : ∀ (ks : List ByteArray) (vs : List J) (s : ByteArray), ∀ k ∈ (delK ks vs s).1, k ∈ ks
  | [], _, s, k, hk => by simp [delK] at hk
  | _ :: _, [], s, k, hk => by simp [delK] at hk
  | a :: ks, v :: vs, s, k, hk => by
    unfold delK at hk
    split at hk
    · exact List.mem_cons_of_mem _ hk
    · rcases List.mem_cons.1 hk with rfl | hk
      · exact List.mem_cons_self
      · exact List.mem_cons_of_mem _ (delK_sub ks vs s k hk)

theorem delK_rises : ∀ (ks : List ByteArray) (vs : List J) (s : ByteArray), rises ks → rises (delK ks vs s).1
  | [], _, s, _ => by simp [delK, rises]
  | _ :: _, [], s, _ => by simp [delK, rises]
  | a :: ks, v :: vs, s, h => by
    unfold delK
    split
    · exact rises_tail h
    · exact rises_cons (delK_rises ks vs s (rises_tail h)) fun x hx => rises_all h x (delK_sub ks vs s x hx)

theorem delK_keys : ∀ (ks : List ByteArray) (vs : List J) (s : ByteArray), ks.length = vs.length → rises ks → ∀ k, k ∈ (delK ks vs s).1 ↔ (k ∈ ks ∧ k ≠ s)
  | [], [], s, _, _, k => by simp [delK]
  | [], _ :: _, s, h, _, k => by simp at h
  | _ :: _, [], s, h, _, k => by simp at h
  | a :: ks, v :: vs, s, h, hr, k => by
    have ih := delK_keys ks vs s (by simpa using h) (rises_tail hr) k
    unfold delK
    split
    · rename_i he
      subst he
      have hn : a ∉ ks := fun hm => by have := rises_all hr a hm; rw [slt_irrefl] at this; cases this
      constructor
      · intro hm
        exact ⟨List.mem_cons_of_mem _ hm, fun e => hn (e ▸ hm)⟩
      · rintro ⟨hm, hne⟩
        rcases List.mem_cons.1 hm with rfl | hm
        · exact absurd rfl hne
        · exact hm
    · rename_i he
      simp only [List.mem_cons, ih]
      constructor
      · rintro (rfl | ⟨h1, h2⟩)
        · exact ⟨.inl rfl, he⟩
        · exact ⟨.inr h1, h2⟩
      · rintro ⟨h1 | h1, h2⟩
        · exact .inl h1
        · exact .inr ⟨h1, h2⟩

theorem delK_get : ∀ (ks : List ByteArray) (vs : List J) (s k : ByteArray), ks.length = vs.length → k ≠ s → getK (delK ks vs s).1 (delK ks vs s).2 k = getK ks vs k
  | [], [], s, k, _, _ => rfl
  | [], _ :: _, s, k, h, _ => by simp at h
  | _ :: _, [], s, k, h, _ => by simp at h
  | a :: ks, v :: vs, s, k, h, hne => by
    have ih := delK_get ks vs s k (by simpa using h) hne
    unfold delK
    split
    · rename_i he
      subst he
      simp only [getK, if_neg (Ne.symm hne)]
    · simp only [getK, ih]

theorem delK_none : ∀ (ks : List ByteArray) (vs : List J) (s : ByteArray), ks.length = vs.length → s ∉ ks → delK ks vs s = (ks, vs)
  | [], [], s, _, _ => rfl
  | [], _ :: _, s, h, _ => by simp at h
  | _ :: _, [], s, h, _ => by simp at h
  | a :: ks, v :: vs, s, h, hn => by
    have hne : a ≠ s := fun e => hn (by simp [e])
    have ih := delK_none ks vs s (by simpa using h) (fun hm => hn (List.mem_cons_of_mem _ hm))
    simp only [delK, if_neg hne, ih]

theorem getK_putK_ne : ∀ (ks : List ByteArray) (vs : List J) (s k : ByteArray) (u : J), ks.length = vs.length → k ≠ s → getK (putK ks vs s u).1 (putK ks vs s u).2 k = getK ks vs k
  | [], [], s, k, u, _, hne => by simp [putK, getK, Ne.symm hne]
  | [], _ :: _, s, k, u, h, _ => by simp at h
  | _ :: _, [], s, k, u, h, _ => by simp at h
  | a :: ks, v :: vs, s, k, u, h, hne => by
    have ih := getK_putK_ne ks vs s k u (by simpa using h) hne
    unfold putK
    split
    · simp only [getK, ih]
    · split
      · rename_i he
        subst he
        simp only [getK, if_neg (Ne.symm hne)]
      · simp only [getK, if_neg (Ne.symm hne)]

/-- Two objects with the same keys and the same values at them are one. -/
theorem obj_ext : ∀ (ks : List ByteArray) (vs : List J) (ks' : List ByteArray) (vs' : List J), ks.length = vs.length → ks'.length = vs'.length → rises ks → rises ks' → (∀ k, k ∈ ks ↔ k ∈ ks') → (∀ k ∈ ks, getK ks vs k = getK ks' vs' k) → ks = ks' ∧ vs = vs'
  | [], vs, ks', vs', h1, h2, _, _, hm, _ => by
    have e : ks' = [] := by
      cases ks' with
      | nil => rfl
      | cons b ks' => exact absurd ((hm b).2 List.mem_cons_self) (by simp)
    subst e
    exact ⟨rfl, by rw [List.length_eq_zero_iff.1 h1.symm, List.length_eq_zero_iff.1 h2.symm]⟩
  | a :: ks, [], ks', vs', h1, _, _, _, _, _ => by simp at h1
  | a :: ks, v :: vs, [], vs', h1, h2, _, _, hm, _ => absurd ((hm a).1 List.mem_cons_self) (by simp)
  | a :: ks, v :: vs, b :: ks', [], h1, h2, _, _, _, _ => by simp at h2
  | a :: ks, v :: vs, b :: ks', v' :: vs', h1, h2, hr, hr', hm, hg => by
    have hab : a = b := by
      rcases List.mem_cons.1 ((hm a).1 List.mem_cons_self) with e | e
      · exact e
      · rcases List.mem_cons.1 ((hm b).2 List.mem_cons_self) with e' | e'
        · exact e'.symm
        · have q1 := rises_all hr' a e
          have q2 := rises_all hr b e'
          rw [slt_asymm q1] at q2; cases q2
    subst hab
    have hn : a ∉ ks := fun h => by have := rises_all hr a h; rw [slt_irrefl] at this; cases this
    have hn' : a ∉ ks' := fun h => by have := rises_all hr' a h; rw [slt_irrefl] at this; cases this
    have hv : v = v' := by have := hg a List.mem_cons_self; simpa [getK] using this
    have ih := obj_ext ks vs ks' vs' (by simpa using h1) (by simpa using h2) (rises_tail hr) (rises_tail hr') (fun k => by
      constructor
      · intro h
        rcases List.mem_cons.1 ((hm k).1 (List.mem_cons_of_mem _ h)) with rfl | h'
        · exact absurd h hn
        · exact h'
      · intro h
        rcases List.mem_cons.1 ((hm k).2 (List.mem_cons_of_mem _ h)) with rfl | h'
        · exact absurd h hn'
        · exact h') (fun k hk => by
      have hne : a ≠ k := fun e => hn (e ▸ hk)
      have := hg k (List.mem_cons_of_mem _ hk)
      simpa [getK, hne] using this)
    exact ⟨by rw [ih.1], by rw [hv, ih.2]⟩

def hasKey (ks : List ByteArray) (s : ByteArray) : Bool := ks.any fun k => decide (k = s)
theorem hasKey_iff (ks : List ByteArray) (s : ByteArray) : hasKey ks s = true ↔ s ∈ ks := by
  unfold hasKey
  rw [List.any_eq_true]
  constructor
  · rintro ⟨k, hk, h⟩
    rw [decide_eq_true_eq] at h
    exact h ▸ hk
  · intro h
    exact ⟨s, h, by simp⟩

/-- What is deleted at a path whose last key is a text. -/
def delJ : J → List J → Option J
  | .null, _ :: _ => some .null
  | .obj ks vs, .str s :: [] => some (.obj (delK ks vs s).1 (delK ks vs s).2)
  | .obj ks vs, .str s :: k :: p => if hasKey ks s = true then (delJ (getK ks vs s) (k :: p)).map fun u => .obj (putK ks vs s u).1 (putK ks vs s u).2 else some (.obj ks vs)
  | .arr l, .num h :: k :: p => if (h / 2).toNat < l.length then (delJ (l.getD (h / 2).toNat .null) (k :: p)).map fun u => .arr (l.set (h / 2).toNat u) else some (.arr l)
  | _, _ => none

/-- Neither is the beginning of the other. -/
def apartJ : List J → List J → Prop
  | k :: p, k' :: q => k ≠ k' ∨ apartJ p q
  | _, _ => False
def keyedJ : List J → Prop
  | [.str _] => True
  | _ :: k :: p => keyedJ (k :: p)
  | _ => False

theorem setAt_len (l : List J) (i : Nat) (u : J) : (setAt l i u).length = max l.length (i + 1) := by
  unfold setAt; split
  · simp; omega
  · simp; omega
theorem setAt_get_ne (l : List J) (i j : Nat) (u : J) (h : j ≠ i) : (setAt l i u).getD j .null = l.getD j .null := by
  unfold setAt
  split
  · simp [List.getD_eq_getElem?_getD, List.getElem?_set, Ne.symm h]
  · rename_i hi
    rw [List.getD_eq_getElem?_getD, List.getD_eq_getElem?_getD]
    by_cases h1 : j < l.length
    · rw [List.append_assoc, List.getElem?_append_left h1]
    · rw [List.getElem?_eq_none (Nat.le_of_not_lt h1)]
      by_cases h2 : j < i
      · rw [List.getElem?_append_left (by simp; omega), List.getElem?_append_right (by omega), List.getElem?_replicate]
        split <;> rfl
      · rw [List.getElem?_eq_none (by simp; omega)]
/-- Two arrays of one length with the same at each place are one. -/
theorem arr_ext (l m : List J) (hl : l.length = m.length) (h : ∀ i, l.getD i .null = m.getD i .null) : l = m := by
  apply List.ext_getElem hl
  intro i h1 h2
  have := h i
  simpa [List.getD_eq_getElem?_getD, h1, h2] using this
theorem set_get (l : List J) (i j : Nat) (u : J) : (l.set i u).getD j .null = if i = j ∧ i < l.length then u else l.getD j .null := by
  rw [List.getD_eq_getElem?_getD, List.getElem?_set]
  by_cases h : i = j
  · subst h
    by_cases h1 : i < l.length
    · simp [h1]
    · simp [h1, List.getD_eq_getElem?_getD]
  · simp [h, List.getD_eq_getElem?_getD]

theorem delJ_null (k : J) (q : List J) : delJ .null (k :: q) = some .null := rfl

theorem apart_cons {p q : List J} (h : apartJ p q) : (∃ k p', p = k :: p') ∧ ∃ k q', q = k :: q' := by
  cases p with
  | nil => exact absurd h (by simp [apartJ])
  | cons k p => cases q with
    | nil => exact absurd h (by simp [apartJ])
    | cons k' q => exact ⟨⟨_, _, rfl⟩, ⟨_, _, rfl⟩⟩

theorem num_ne {h h' : Int} (k1 : keyOk (.num h)) (k2 : keyOk (.num h')) (hn : J.num h ≠ J.num h') : (h / 2).toNat ≠ (h' / 2).toNat := fun e => hn (by
  obtain ⟨a1, a2, a3⟩ := k1
  obtain ⟨b1, b2, b3⟩ := k2
  have : h = h' := by omega
  rw [this])

theorem putK_comm (ks : List ByteArray) (vs : List J) (s s' : ByteArray) (u u' : J) (hl : ks.length = vs.length) (hr : rises ks) (hne : s ≠ s') :
    J.obj (putK (putK ks vs s u).1 (putK ks vs s u).2 s' u').1 (putK (putK ks vs s u).1 (putK ks vs s u).2 s' u').2 = J.obj (putK (putK ks vs s' u').1 (putK ks vs s' u').2 s u).1 (putK (putK ks vs s' u').1 (putK ks vs s' u').2 s u).2 := by
  have l1 := (putK_length ks vs s u hl).1
  have l2 := (putK_length ks vs s' u' hl).1
  have r1 := putK_rises ks vs s u hl hr
  have r2 := putK_rises ks vs s' u' hl hr
  have e := obj_ext _ _ _ _ (putK_length _ _ s' u' l1).1 (putK_length _ _ s u l2).1 (putK_rises _ _ s' u' l1 r1) (putK_rises _ _ s u l2 r2) (fun k => by
    rw [putK_keys _ _ s' u' l1, putK_keys _ _ s u l2, putK_keys _ _ s u hl, putK_keys _ _ s' u' hl]
    constructor
    · rintro ((h | h) | h) <;> simp [h]
    · rintro ((h | h) | h) <;> simp [h]) (fun k _ => by
    by_cases h1 : k = s
    · subst h1
      rw [getK_putK, getK_putK_ne _ _ s' k u' l1 hne, getK_putK]
    · by_cases h2 : k = s'
      · subst h2
        rw [getK_putK, getK_putK_ne _ _ s k u l2 h1, getK_putK]
      · rw [getK_putK_ne _ _ s' k u' l1 h2, getK_putK_ne _ _ s k u hl h1, getK_putK_ne _ _ s k u l2 h1, getK_putK_ne _ _ s' k u' hl h2])
  rw [e.1, e.2]

theorem putK_delK (ks : List ByteArray) (vs : List J) (s s' : ByteArray) (u : J) (hl : ks.length = vs.length) (hr : rises ks) (hne : s ≠ s') :
    J.obj (putK (delK ks vs s').1 (delK ks vs s').2 s u).1 (putK (delK ks vs s').1 (delK ks vs s').2 s u).2 = J.obj (delK (putK ks vs s u).1 (putK ks vs s u).2 s').1 (delK (putK ks vs s u).1 (putK ks vs s u).2 s').2 := by
  have l1 := delK_length ks vs s' hl
  have l2 := (putK_length ks vs s u hl).1
  have r1 := delK_rises ks vs s' hr
  have r2 := putK_rises ks vs s u hl hr
  have e := obj_ext _ _ _ _ (putK_length _ _ s u l1).1 (delK_length _ _ s' l2) (putK_rises _ _ s u l1 r1) (delK_rises _ _ s' r2) (fun k => by
    rw [putK_keys _ _ s u l1, delK_keys _ _ s' l2 r2, putK_keys _ _ s u hl, delK_keys _ _ s' hl hr]
    constructor
    · rintro (⟨h1, h2⟩ | rfl)
      · exact ⟨.inl h1, h2⟩
      · exact ⟨.inr rfl, hne⟩
    · rintro ⟨h1 | h1, h2⟩
      · exact .inl ⟨h1, h2⟩
      · exact .inr h1) (fun k hk => by
    have hks : k ≠ s' := by
      rintro rfl
      rw [putK_keys _ _ s u l1, delK_keys _ _ k hl hr] at hk
      rcases hk with ⟨_, h⟩ | h
      · exact h rfl
      · exact hne h.symm
    rw [delK_get _ _ s' k l2 hks]
    by_cases h1 : k = s
    · subst h1
      rw [getK_putK, getK_putK]
    · rw [getK_putK_ne _ _ s k u l1 h1, getK_putK_ne _ _ s k u hl h1, delK_get _ _ s' k hl hks])
  rw [e.1, e.2]

theorem putK_same (ks : List ByteArray) (vs : List J) (s : ByteArray) (u u' : J) : J.obj (putK (putK ks vs s u).1 (putK ks vs s u).2 s u').1 (putK (putK ks vs s u).1 (putK ks vs s u).2 s u').2 = J.obj (putK ks vs s u').1 (putK ks vs s u').2 := by
  rw [putK_putK]

theorem keyed_tail {k k2 : J} {q : List J} (h : keyedJ (k :: k2 :: q)) : keyedJ (k2 :: q) := by
  cases k <;> exact h
theorem keyed_num {h : Int} : ¬ keyedJ [.num h] := by simp [keyedJ]

theorem set_null_same (l : List J) (i : Nat) (h : l.getD i .null = .null) : l.set i .null = l := by
  refine arr_ext _ _ (by simp) fun j => ?_
  rw [set_get]
  split
  · rename_i hj; rw [← hj.1, h]
  · rfl

theorem set_del : ∀ (p q : List J) (v x r s a : J), (∀ k ∈ p, keyOk k) → (∀ k ∈ q, keyOk k) → v.okn 2001 → apartJ p q → keyedJ q → setJ v p x = some r → delJ v q = some s → delJ r q = some a → setJ s p x = some a
  | [], q, v, x, r, s, a, _, _, _, h, _, _, _, _ => absurd h (by simp [apartJ])
  | k :: p, [], v, x, r, s, a, _, _, _, h, _, _, _, _ => absurd h (by simp [apartJ])
  | k :: p, k' :: q, v, x, r, s, a, hkp, hkq, hv, hap, hke, h1, h2, h3 => by
    have hk := hkp k List.mem_cons_self
    have hk' := hkq k' List.mem_cons_self
    have hkp' : ∀ y ∈ p, keyOk y := fun y hy => hkp y (List.mem_cons_of_mem _ hy)
    have hkq' : ∀ y ∈ q, keyOk y := fun y hy => hkq y (List.mem_cons_of_mem _ hy)
    by_cases hkk : k = k'
    · -- one key: go on within
      subst hkk
      have hap' : apartJ p q := by rcases hap with h | h; exact absurd rfl h; exact h
      obtain ⟨⟨kp, p', rfl⟩, ⟨kq, q', rfl⟩⟩ := apart_cons hap'
      have hke' : keyedJ (kq :: q') := keyed_tail hke
      cases k with
      | str s0 =>
        cases v with
        | null =>
          simp only [setJ, Option.map_eq_some_iff] at h1
          obtain ⟨u, hu, rfl⟩ := h1
          simp only [delJ, Option.some.injEq] at h2
          subst h2
          have hh : hasKey [s0] s0 = true := (hasKey_iff _ _).2 (by simp)
          simp only [delJ, hh, if_true, Option.map_eq_some_iff] at h3
          obtain ⟨t', ht', rfl⟩ := h3
          have e1 : getK [s0] [u] s0 = u := by simp [getK]
          rw [e1] at ht'
          have ih := set_del (kp :: p') (kq :: q') .null x u .null t' hkp' hkq' trivial hap' hke' hu rfl ht'
          simp only [setJ, Option.map_eq_some_iff]
          refine ⟨t', ih, ?_⟩
          simp [putK, slt_irrefl]
        | obj ks vs =>
          simp only [setJ, Option.map_eq_some_iff] at h1
          obtain ⟨u, hu, rfl⟩ := h1
          have hl := hv.1
          have hh : hasKey (putK ks vs s0 u).1 s0 = true := (hasKey_iff _ _).2 ((putK_keys ks vs s0 u hl s0).2 (.inr rfl))
          simp only [delJ, hh, if_true, Option.map_eq_some_iff] at h3
          obtain ⟨t', ht', rfl⟩ := h3
          rw [getK_putK] at ht'
          simp only [delJ] at h2
          split at h2
          · simp only [Option.map_eq_some_iff] at h2
            obtain ⟨t, ht, rfl⟩ := h2
            have ih := set_del (kp :: p') (kq :: q') (getK ks vs s0) x u t t' hkp' hkq' (getK_okn ks vs s0 ((oksn_iff _ _).1 hv.2.2.2.2)) hap' hke' hu ht ht'
            simp only [setJ, getK_putK, Option.map_eq_some_iff]
            exact ⟨t', ih, by rw [putK_putK, putK_putK]⟩
          · rename_i hn
            have hn' : s0 ∉ ks := fun h => hn ((hasKey_iff _ _).2 h)
            obtain rfl := Option.some.inj h2
            have hg := getK_none ks vs s0 hn'
            rw [hg] at hu
            have ih := set_del (kp :: p') (kq :: q') .null x u .null t' hkp' hkq' trivial hap' hke' hu rfl ht'
            simp only [setJ, hg, Option.map_eq_some_iff]
            exact ⟨t', ih, by rw [putK_putK]⟩
        | _ => simp [setJ] at h1
      | num h0 =>
        cases v with
        | null =>
          simp only [setJ, Option.map_eq_some_iff] at h1
          obtain ⟨u, hu, rfl⟩ := h1
          simp only [delJ, Option.some.injEq] at h2
          subst h2
          have hlt : (h0 / 2).toNat < (setAt [] (h0 / 2).toNat u).length := by rw [setAt_len]; omega
          simp only [delJ, hlt, if_true, Option.map_eq_some_iff, setAt_get] at h3
          obtain ⟨t', ht', rfl⟩ := h3
          have ih := set_del (kp :: p') (kq :: q') .null x u .null t' hkp' hkq' trivial hap' hke' hu rfl ht'
          simp only [setJ, Option.map_eq_some_iff]
          refine ⟨t', ih, ?_⟩
          have := setAt_setAt [] (h0 / 2).toNat u t'
          rw [← this]; conv => lhs; rw [setAt, if_pos hlt]
        | arr l =>
          simp only [setJ, Option.map_eq_some_iff] at h1
          obtain ⟨u, hu, rfl⟩ := h1
          have hlt : (h0 / 2).toNat < (setAt l (h0 / 2).toNat u).length := by rw [setAt_len]; omega
          simp only [delJ, hlt, if_true, Option.map_eq_some_iff, setAt_get] at h3
          obtain ⟨t', ht', rfl⟩ := h3
          have hfin : (setAt l (h0 / 2).toNat u).set (h0 / 2).toNat t' = setAt l (h0 / 2).toNat t' := by
            have := setAt_setAt l (h0 / 2).toNat u t'
            rw [← this]; conv => rhs; rw [setAt, if_pos hlt]
          simp only [delJ] at h2
          split at h2
          · rename_i hi
            simp only [Option.map_eq_some_iff] at h2
            obtain ⟨t, ht, rfl⟩ := h2
            have ih := set_del (kp :: p') (kq :: q') (l.getD (h0 / 2).toNat .null) x u t t' hkp' hkq' (getD_okn l _ ((oksn_iff _ _).1 hv.2)) hap' hke' hu ht ht'
            have e1 : (l.set (h0 / 2).toNat t).getD (h0 / 2).toNat .null = t := by rw [set_get, if_pos ⟨rfl, hi⟩]
            simp only [setJ, e1, Option.map_eq_some_iff]
            refine ⟨t', ih, ?_⟩
            rw [hfin]
            congr 1
            unfold setAt
            rw [if_pos (by simpa using hi), if_pos hi, List.set_set]
          · rename_i hi
            obtain rfl := Option.some.inj h2
            have hg : l.getD (h0 / 2).toNat .null = .null := by rw [List.getD_eq_getElem?_getD, List.getElem?_eq_none (by omega)]; rfl
            rw [hg] at hu
            have ih := set_del (kp :: p') (kq :: q') .null x u .null t' hkp' hkq' trivial hap' hke' hu rfl ht'
            simp only [setJ, hg, Option.map_eq_some_iff]
            exact ⟨t', ih, by rw [hfin]⟩
        | _ => simp [setJ] at h1
      | _ => exact hk.elim
    · -- two keys
      cases k with
      | str s0 =>
        cases k' with
        | str s1 =>
          have hne : s0 ≠ s1 := fun e => hkk (by rw [e])
          cases v with
          | null =>
            simp only [setJ, Option.map_eq_some_iff] at h1
            obtain ⟨u, hu, rfl⟩ := h1
            simp only [delJ, Option.some.injEq] at h2
            subst h2
            have ha : a = .obj [s0] [u] := by
              cases q with
              | nil => simp only [delJ, delK, if_neg hne, Option.some.injEq] at h3; exact h3.symm
              | cons k2 q2 =>
                have hn : ¬ hasKey [s0] s1 = true := fun h => hne (List.mem_singleton.1 ((hasKey_iff _ _).1 h)).symm
                simp only [delJ, if_neg hn, Option.some.injEq] at h3; exact h3.symm
            subst ha
            simp only [setJ, hu, Option.map_some]
          | obj ks vs =>
            simp only [setJ, Option.map_eq_some_iff] at h1
            obtain ⟨u, hu, rfl⟩ := h1
            have hl := hv.1
            have hr := hv.2.2.1
            cases q with
            | nil =>
              simp only [delJ, Option.some.injEq] at h2 h3
              subst h2 h3
              simp only [setJ, delK_get ks vs s1 s0 hl hne, hu, Option.map_some]
              rw [putK_delK ks vs s0 s1 u hl hr hne]
            | cons k2 q2 =>
              simp only [delJ] at h2 h3
              rw [getK_putK_ne ks vs s0 s1 u hl (Ne.symm hne)] at h3
              by_cases hm : s1 ∈ ks
              · rw [if_pos ((hasKey_iff _ _).2 hm), Option.map_eq_some_iff] at h2
                rw [if_pos ((hasKey_iff _ _).2 ((putK_keys ks vs s0 u hl s1).2 (.inl hm))), Option.map_eq_some_iff] at h3
                obtain ⟨t, ht, rfl⟩ := h2
                obtain ⟨t', ht', rfl⟩ := h3
                obtain rfl : t = t' := Option.some.inj (ht.symm.trans ht')
                simp only [setJ, getK_putK_ne ks vs s1 s0 t hl hne, hu, Option.map_some]
                rw [putK_comm ks vs s1 s0 t u hl hr (Ne.symm hne)]
              · have hn : ¬ hasKey (putK ks vs s0 u).1 s1 = true := fun h => by
                  rcases (putK_keys ks vs s0 u hl s1).1 ((hasKey_iff _ _).1 h) with h | h
                  · exact hm h
                  · exact hne h.symm
                rw [if_neg (fun h => hm ((hasKey_iff _ _).1 h))] at h2
                rw [if_neg hn] at h3
                obtain rfl := Option.some.inj h2
                obtain rfl := Option.some.inj h3
                simp only [setJ, hu, Option.map_some]
          | _ => simp [setJ] at h1
        | num i1 =>
          exfalso
          cases v with
          | null =>
            simp only [setJ, Option.map_eq_some_iff] at h1
            obtain ⟨u, hu, rfl⟩ := h1
            cases q <;> simp [delJ] at h3
          | obj ks vs =>
            simp only [setJ, Option.map_eq_some_iff] at h1
            obtain ⟨u, hu, rfl⟩ := h1
            cases q <;> simp [delJ] at h3
          | _ => simp [setJ] at h1
        | _ => exact hk'.elim
      | num i0 =>
        cases k' with
        | str s1 =>
          exfalso
          cases v with
          | null =>
            simp only [setJ, Option.map_eq_some_iff] at h1
            obtain ⟨u, hu, rfl⟩ := h1
            cases q <;> simp [delJ] at h3
          | arr l =>
            simp only [setJ, Option.map_eq_some_iff] at h1
            obtain ⟨u, hu, rfl⟩ := h1
            cases q <;> simp [delJ] at h3
          | _ => simp [setJ] at h1
        | num i1 =>
          have hne := num_ne hk hk' hkk
          generalize hj0 : (i0 / 2).toNat = j0 at hne
          generalize hj1 : (i1 / 2).toNat = j1 at hne
          cases q with
          | nil => exact absurd hke keyed_num
          | cons k2 q2 =>
            cases v with
            | null =>
              simp only [setJ, hj0, Option.map_eq_some_iff] at h1
              obtain ⟨u, hu, rfl⟩ := h1
              simp only [delJ, Option.some.injEq] at h2
              subst h2
              have hg : (setAt [] j0 u).getD j1 .null = .null := by rw [setAt_get_ne [] j0 j1 u (Ne.symm hne)]; rfl
              have ha : a = .arr (setAt [] j0 u) := by
                simp only [delJ, hj1, hg, Option.map_some] at h3
                split at h3
                · rw [set_null_same _ _ hg] at h3; exact (Option.some.inj h3).symm
                · exact (Option.some.inj h3).symm
              subst ha
              simp only [setJ, hj0, hu, Option.map_some]
            | arr l =>
              simp only [setJ, hj0, Option.map_eq_some_iff] at h1
              obtain ⟨u, hu, rfl⟩ := h1
              simp only [delJ, hj1] at h2 h3
              rw [setAt_get_ne l j0 j1 u (Ne.symm hne)] at h3
              by_cases hm : j1 < l.length
              · rw [if_pos hm, Option.map_eq_some_iff] at h2
                rw [if_pos (by rw [setAt_len]; omega), Option.map_eq_some_iff] at h3
                obtain ⟨t, ht, rfl⟩ := h2
                obtain ⟨t', ht', rfl⟩ := h3
                obtain rfl : t = t' := Option.some.inj (ht.symm.trans ht')
                have hg : (l.set j1 t).getD j0 .null = l.getD j0 .null := by rw [set_get, if_neg (fun h => hne h.1.symm)]
                simp only [setJ, hj0, hg, hu, Option.map_some]
                congr 2
                refine arr_ext _ _ (by simp [setAt_len]) fun j => ?_
                rw [set_get]
                by_cases e0 : j = j0
                · subst e0
                  rw [setAt_get, if_neg (fun h => hne h.1.symm), setAt_get]
                · rw [setAt_get_ne _ _ _ _ e0, set_get, setAt_get_ne _ _ _ _ e0, setAt_len]
                  by_cases e1 : j1 = j
                  · subst e1
                    rw [if_pos ⟨rfl, hm⟩, if_pos ⟨rfl, by omega⟩]
                  · rw [if_neg (fun h => e1 h.1), if_neg (fun h => e1 h.1)]
              · have hg : l.getD j1 .null = .null := by rw [List.getD_eq_getElem?_getD, List.getElem?_eq_none (by omega)]; rfl
                rw [if_neg hm] at h2
                obtain rfl := Option.some.inj h2
                rw [hg] at h3
                have ha : a = .arr (setAt l j0 u) := by
                  simp only [delJ, Option.map_some] at h3
                  split at h3
                  · rw [set_null_same _ _ (by rw [setAt_get_ne l j0 j1 u (Ne.symm hne)]; exact hg)] at h3; exact (Option.some.inj h3).symm
                  · exact (Option.some.inj h3).symm
                subst ha
                simp only [setJ, hj0, hu, Option.map_some]
            | _ => simp [setJ] at h1
        | _ => exact hk'.elim
      | _ => exact hk.elim
termination_by p => p.length
end Go.Gj

/-
  A map under a range: an entry set to what it holds; an entry struck out.
-/
namespace Go.Gj
set_option linter.unusedSimpArgs false
set_option linter.unusedVariables false
set_option linter.unnecessarySimpa false
open Go Go.RowKit Go.Proofs

theorem setMap_self {w : World} {b : Nat} {es : Array MapEntry} {clk : Nat} (hb : w.heap[b]? = some (.map es clk)) : setMap w b es clk = w := by
  have hlt : b < w.heap.size := (Array.getElem?_eq_some_iff.1 hb).1
  have hv : w.heap[b] = .map es clk := (Array.getElem?_eq_some_iff.1 hb).2
  have e : w.heap.setIfInBounds b (.map es clk) = w.heap := by
    refine Array.ext (by rw [Array.size_setIfInBounds]) fun i h1 h2 => ?_
    rw [Array.getElem_setIfInBounds]
    split
    · rename_i hi; subst hi; exact hv.symm
    · rfl
  unfold setMap
  rw [e]

theorem modify_self {α : Type} (es : Array α) (j : Nat) (f : α → α) (h : ∀ e, es[j]? = some e → f e = e) : es.modify j f = es := by
  refine Array.ext (by rw [Array.size_modify]) fun i h1 h2 => ?_
  rw [Array.getElem_modify]
  split
  · rename_i hj
    subst hj
    exact h _ (Array.getElem?_eq_getElem h2)
  · rfl

/-- A key that is there is set to what stands there: nothing turns. -/
theorem run_update_same {w : World} {b : Nat} {es : Array MapEntry} {clk : Nat} (s : ByteArray) (e : MapEntry) (hb : w.heap[b]? = some (.map es clk)) (hk : ∀ x ∈ es.toList, ∃ k, x.key = .string k) (hnd : (es.toList.map (·.key)).Nodup) (he : e ∈ es.toList) (hs : e.key = .string s) :
    (Instr.mapUpdate 83 (.map (some b)) (.string s) e.val).run Tryz.prog w = .ok () w := by
  have hc : (Instr.checkKey false 10000 9 (.string s)).run Tryz.prog w = .ok () w := MapKept.run_checkKey (k := .string s) u9 (by simp [MapKept.IsKey]) false 9999
  obtain ⟨j, h1, h2⟩ := findNow_some es.toList s 0 hk hnd e he hs
  have hf := run_findKey (w := w) h1
  rw [Nat.zero_add] at hf
  have hj : es[j]? = some e := by simpa using h2
  have hst : (Instr.keyThatStays (.string s) (.string s)).run Tryz.prog w = .ok (.string s) w := by
    have hb : Instr.sameBits 10000 (.string s) (.string s) = true := ba_eq s
    simp [Instr.keyThatStays, hb]
  have hmod : es.modify j (fun x => { x with key := .string s, val := e.val }) = es := modify_self es j _ fun x hx => by
    rw [hj] at hx
    obtain rfl := Option.some.inj hx
    rw [← hs]
  have hself := setMap_self hb
  unfold setMap at hself
  simp [Instr.mapUpdate, run_underlying u83, getObj, setObj, hb, Sem.run, hc, hf, hj, hs, hst, hmod, hself]

/-- An entry is struck out. -/
theorem run_delete {w : World} {b : Nat} {es : Array MapEntry} {clk : Nat} (s : ByteArray) (e : MapEntry) (hb : w.heap[b]? = some (.map es clk)) (hk : ∀ x ∈ es.toList, ∃ k, x.key = .string k) (hnd : (es.toList.map (·.key)).Nodup) (he : e ∈ es.toList) (hs : e.key = .string s) (ty : TypeId) :
    ∃ j, es[j]? = some e ∧ (Builtin.delete_ #[83, 9] ty #[.map (some b), .string s]).run Tryz.prog w = .ok (.tuple #[]) (setMap w b (es.eraseIdxIfInBounds j) clk) := by
  have hc : (Instr.checkKey es.isEmpty 10000 9 (.string s)).run Tryz.prog w = .ok () w := MapKept.run_checkKey (k := .string s) u9 (by simp [MapKept.IsKey]) _ 9999
  obtain ⟨j, h1, h2⟩ := findNow_some es.toList s 0 hk hnd e he hs
  have hf := run_findKey (w := w) h1
  rw [Nat.zero_add] at hf
  refine ⟨j, by simpa using h2, ?_⟩
  simp [Builtin.delete_, run_underlying u83, getObj, setObj, hb, Sem.run, hc, hf, setMap]
end Go.Gj
