import Derived.Test.YtnlndpgbhmkanaaGreatDoorPlP
/-
  The plain law of a stable sort in place: rows as functions from places to the elements' first places; shuffles, rotations, merges.
-/
namespace Go.Gj
set_option linter.unusedVariables false

/-- The row e is the row d, shuffled within [a, b). -/
structure Sh (a b : Nat) (d e : Nat → Nat) : Prop where
  out : ∀ k, ¬ (a ≤ k ∧ k < b) → e k = d k
  new : ∀ k, a ≤ k → k < b → ∃ k', a ≤ k' ∧ k' < b ∧ e k = d k'
  old : ∀ k, a ≤ k → k < b → ∃ k', a ≤ k' ∧ k' < b ∧ d k = e k'

theorem Sh.refl (a b : Nat) (d : Nat → Nat) : Sh a b d d := ⟨fun _ _ => rfl, fun k h1 h2 => ⟨k, h1, h2, rfl⟩, fun k h1 h2 => ⟨k, h1, h2, rfl⟩⟩
theorem Sh.trans {a b : Nat} {d e f : Nat → Nat} (h : Sh a b d e) (h' : Sh a b e f) : Sh a b d f :=
  ⟨fun k hk => (h'.out k hk).trans (h.out k hk),
   fun k h1 h2 => by obtain ⟨k', a1, a2, a3⟩ := h'.new k h1 h2; obtain ⟨k2, b1, b2, b3⟩ := h.new k' a1 a2; exact ⟨k2, b1, b2, a3.trans b3⟩,
   fun k h1 h2 => by obtain ⟨k', a1, a2, a3⟩ := h.old k h1 h2; obtain ⟨k2, b1, b2, b3⟩ := h'.old k' a1 a2; exact ⟨k2, b1, b2, a3.trans b3⟩⟩
theorem Sh.mono {a b a' b' : Nat} {d e : Nat → Nat} (h : Sh a b d e) (ha : a' ≤ a) (hb : b ≤ b') : Sh a' b' d e := by
  refine ⟨fun k hk => h.out k (by omega), fun k h1 h2 => ?_, fun k h1 h2 => ?_⟩
  · by_cases hk : a ≤ k ∧ k < b
    · obtain ⟨k', a1, a2, a3⟩ := h.new k hk.1 hk.2; exact ⟨k', by omega, by omega, a3⟩
    · exact ⟨k, h1, h2, h.out k hk⟩
  · by_cases hk : a ≤ k ∧ k < b
    · obtain ⟨k', a1, a2, a3⟩ := h.old k hk.1 hk.2; exact ⟨k', by omega, by omega, a3⟩
    · exact ⟨k, h1, h2, (h.out k hk).symm⟩

def swp (d : Nat → Nat) (i j : Nat) : Nat → Nat := fun k => if k = i then d j else if k = j then d i else d k
theorem Sh.swp {a b i j : Nat} (d : Nat → Nat) (hi : a ≤ i ∧ i < b) (hj : a ≤ j ∧ j < b) : Sh a b d (swp d i j) := by
  refine ⟨fun k hk => ?_, fun k h1 h2 => ?_, fun k h1 h2 => ?_⟩
  · have h1 : k ≠ i := fun h => hk (h ▸ hi)
    have h2 : k ≠ j := fun h => hk (h ▸ hj)
    simp [Go.Gj.swp, h1, h2]
  · unfold Go.Gj.swp
    split
    · exact ⟨j, hj.1, hj.2, rfl⟩
    · split
      · exact ⟨i, hi.1, hi.2, rfl⟩
      · exact ⟨k, h1, h2, rfl⟩
  · unfold Go.Gj.swp
    by_cases hki : k = i
    · refine ⟨j, hj.1, hj.2, ?_⟩
      subst hki
      by_cases h : j = k
      · subst h; simp
      · simp [h]
    · by_cases hkj : k = j
      · refine ⟨i, hi.1, hi.2, ?_⟩
        subst hkj
        simp
      · exact ⟨k, h1, h2, by simp [hki, hkj]⟩

def swr (d : Nat → Nat) (a b n : Nat) : Nat → Nat := fun k => if a ≤ k ∧ k < a + n then d (k - a + b) else if b ≤ k ∧ k < b + n then d (k - b + a) else d k
def rot (d : Nat → Nat) (a m b : Nat) : Nat → Nat := fun k => if k < a then d k else if k < a + (b - m) then d (k - a + m) else if k < b then d (k - (b - m)) else d k

theorem swr_zero (d : Nat → Nat) (a b : Nat) : swr d a b 0 = d := by
  funext k
  unfold swr
  rw [if_neg (by omega), if_neg (by omega)]

theorem swr_succ (d : Nat → Nat) (a b i : Nat) (h : a + i < b) : swp (swr d a b i) (a + i) (b + i) = swr d a b (i + 1) := by
  funext k
  unfold swp swr
  repeat' split
  all_goals first | rfl | (exfalso; omega) | (congr 1; omega)

theorem Sh.swr {lo hi : Nat} (d : Nat → Nat) (a b : Nat) : ∀ n, a + n ≤ b → lo ≤ a → b + n ≤ hi → Sh lo hi d (swr d a b n)
  | 0, _, _, _ => by rw [swr_zero]; exact .refl _ _ _
  | n + 1, h1, h2, h3 => by
    rw [← swr_succ d a b n (by omega)]
    exact (Sh.swr d a b n (by omega) h2 (by omega)).trans (.swp _ ⟨by omega, by omega⟩ ⟨by omega, by omega⟩)

theorem rot_gt (d : Nat → Nat) (m i j : Nat) (hi : i ≤ m) (h : j < i) : rot d (m - i) m (m + j) = rot (swr d (m - i) m j) (m - i + j) m (m + j) := by
  funext k
  unfold rot swr
  repeat' split
  all_goals first | rfl | (exfalso; omega) | (congr 1; omega)

theorem rot_lt (d : Nat → Nat) (m i j : Nat) (hi : i ≤ m) (h : i < j) : rot d (m - i) m (m + j) = rot (swr d (m - i) (m + j - i) i) (m - i) m (m + j - i) := by
  funext k
  unfold rot swr
  repeat' split
  all_goals first | rfl | (exfalso; omega) | (congr 1; omega)

theorem rot_eq (d : Nat → Nat) (m i : Nat) (hi : i ≤ m) : rot d (m - i) m (m + i) = swr d (m - i) m i := by
  funext k
  unfold rot swr
  repeat' split
  all_goals first | rfl | (exfalso; omega) | (congr 1; omega)

theorem rot_left (d : Nat → Nat) (m b : Nat) (h : m ≤ b) : rot d m m b = d := by
  funext k
  unfold rot
  repeat' split
  all_goals first | rfl | (exfalso; omega) | (congr 1; omega)
theorem rot_right (d : Nat → Nat) (a m : Nat) (h : a ≤ m) : rot d a m m = d := by
  funext k
  unfold rot
  repeat' split
  all_goals first | rfl | (exfalso; omega) | (congr 1; omega)

theorem Sh.rot (d : Nat → Nat) (a m b : Nat) (h1 : a ≤ m) (h2 : m ≤ b) : Sh a b d (rot d a m b) := by
  refine ⟨fun k hk => ?_, fun k h3 h4 => ?_, fun k h3 h4 => ?_⟩
  · unfold Go.Gj.rot
    repeat' split
    all_goals first | rfl | (exfalso; omega)
  · unfold Go.Gj.rot
    repeat' split
    all_goals first | (exfalso; omega) | exact ⟨_, by omega, by omega, rfl⟩
  · by_cases hk : k < m
    · refine ⟨k + (b - m), by omega, by omega, ?_⟩
      unfold Go.Gj.rot
      rw [if_neg (by omega), if_neg (by omega), if_pos (by omega)]
      congr 1
      omega
    · refine ⟨k - m + a, by omega, by omega, ?_⟩
      unfold Go.Gj.rot
      rw [if_neg (by omega), if_pos (by omega)]
      congr 1
      omega

section
variable {lt : Nat → Nat → Bool}
/-- The key's order, and where the keys are alike the first places' order. -/
def prec (lt : Nat → Nat → Bool) (x y : Nat) : Prop := lt y x = false ∧ (x < y ∨ lt x y = true)
structure Wk (lt : Nat → Nat → Bool) : Prop where
  asy : ∀ x y, lt x y = true → lt y x = false
  tr : ∀ x y z, lt y x = false → lt z y = false → lt z x = false

theorem prec_trans (W : Wk lt) {x y z : Nat} (h : prec lt x y) (h' : prec lt y z) : prec lt x z := by
  refine ⟨W.tr _ _ _ h.1 h'.1, ?_⟩
  rcases h.2 with h1 | h1
  · rcases h'.2 with h2 | h2
    · exact .inl (by omega)
    · right
      cases hx : lt x z with
      | true => rfl
      | false => have h3 := W.tr _ _ _ hx h.1; rw [h2] at h3; cases h3
  · right
    cases hx : lt x z with
    | true => rfl
    | false => have h3 := W.tr _ _ _ h'.1 hx; rw [h1] at h3; cases h3

theorem prec_ne {x y : Nat} (h : prec lt x y) : x ≠ y := by
  rintro rfl
  rcases h.2 with h1 | h1
  · omega
  · rw [h.1] at h1; cases h1
theorem prec_asymm {x y : Nat} (h : prec lt x y) (h' : prec lt y x) : False := by
  rcases h.2 with h1 | h1
  · rcases h'.2 with h2 | h2
    · omega
    · rw [h.1] at h2; cases h2
  · rw [h'.1] at h1; cases h1

/-- Of two elements in their first order: the second is before the first only where its key is smaller. -/
theorem prec_of_lt {W : Wk lt} {x y : Nat} (h : lt y x = true) : prec lt y x := ⟨W.asy _ _ h, .inr h⟩
theorem prec_of_not {x y : Nat} (hxy : x < y) (h : lt y x = false) : prec lt x y := ⟨h, .inl hxy⟩
theorem lt_of_prec {x y : Nat} (hxy : x < y) (h : prec lt y x) : lt y x = true := by
  rcases h.2 with h1 | h1
  · omega
  · exact h1

def SortedOn (lt : Nat → Nat → Bool) (d : Nat → Nat) (a b : Nat) : Prop := ∀ i j, a ≤ i → i < j → j < b → prec lt (d i) (d j)
def Sep (d : Nat → Nat) (a m b : Nat) : Prop := ∀ i j, a ≤ i → i < m → m ≤ j → j < b → d i < d j

theorem SortedOn.congr {d e : Nat → Nat} {a b : Nat} (h : SortedOn lt d a b) (he : ∀ k, a ≤ k → k < b → e k = d k) : SortedOn lt e a b := fun i j h1 h2 h3 => by
  rw [he i h1 (by omega), he j (by omega) h3]; exact h i j h1 h2 h3

theorem SortedOn.join {d : Nat → Nat} {a m b : Nat} (h : SortedOn lt d a m) (h' : SortedOn lt d m b) (hx : ∀ i j, a ≤ i → i < m → m ≤ j → j < b → prec lt (d i) (d j)) : SortedOn lt d a b := fun i j h1 h2 h3 => by
  by_cases hj : j < m
  · exact h i j h1 h2 hj
  · by_cases hi : i < m
    · exact hx i j h1 hi (by omega) h3
    · exact h' i j (by omega) h2 h3

theorem SortedOn.sub {d : Nat → Nat} {a b a' b' : Nat} (h : SortedOn lt d a b) (ha : a ≤ a') (hb : b' ≤ b) : SortedOn lt d a' b' := fun i j h1 h2 h3 => h i j (by omega) h2 (by omega)

/-- One element put into a sorted row behind it. -/
def lsh (d : Nat → Nat) (a i : Nat) : Nat → Nat := fun k => if a ≤ k ∧ k + 1 < i then d (k + 1) else if k + 1 = i then d a else d k
theorem lsh_start (d : Nat → Nat) (a : Nat) : lsh d a (a + 1) = d := by
  funext k
  unfold lsh
  repeat' split
  all_goals first | rfl | (exfalso; omega) | (congr 1; omega)
theorem lsh_step (d : Nat → Nat) (a k : Nat) (h : a ≤ k) : swp (lsh d a (k + 1)) k (k + 1) = lsh d a (k + 1 + 1) := by
  funext x
  unfold swp lsh
  repeat' split
  all_goals first | rfl | (exfalso; omega) | (congr 1; omega)

theorem sorted_lsh (W : Wk lt) {d : Nat → Nat} {a i b : Nat} (h : SortedOn lt d (a + 1) b) (hi : a + 1 ≤ i) (hib : i ≤ b) (hs : Sep d a (a + 1) b)
    (h1 : ∀ k, a + 1 ≤ k → k < i → lt (d k) (d a) = true) (h2 : ∀ k, i ≤ k → k < b → lt (d k) (d a) = false) : SortedOn lt (lsh d a i) a b := by
  have g1 : ∀ k, a + 1 ≤ k → k < i → prec lt (d k) (d a) := fun k q1 q2 => prec_of_lt (W := W) (h1 k q1 q2)
  have g2 : ∀ k, i ≤ k → k < b → prec lt (d a) (d k) := fun k q1 q2 => prec_of_not (hs a k (Nat.le_refl _) (by omega) (by omega) q2) (h2 k q1 q2)
  intro x y hx hxy hy
  unfold lsh
  repeat' split
  all_goals first | (exfalso; omega) | exact h _ _ (by omega) (by omega) (by omega) | exact g1 _ (by omega) (by omega) | exact g2 _ (by omega) (by omega) | skip

/-- One element put into a sorted row before it. -/
def rsh (d : Nat → Nat) (i m : Nat) : Nat → Nat := fun k => if i < k ∧ k ≤ m then d (k - 1) else if k = i then d m else d k
theorem rsh_start (d : Nat → Nat) (m : Nat) : rsh d m m = d := by
  funext k
  unfold rsh
  repeat' split
  all_goals first | rfl | (exfalso; omega) | (congr 1; omega)
theorem rsh_step (d : Nat → Nat) (k m : Nat) (h : k + 1 ≤ m) : swp (rsh d (k + 1) m) (k + 1) k = rsh d k m := by
  funext x
  unfold swp rsh
  repeat' split
  all_goals first | rfl | (exfalso; omega) | (congr 1; omega)

theorem sorted_rsh (W : Wk lt) {d : Nat → Nat} {a i m : Nat} (h : SortedOn lt d a m) (hi : a ≤ i) (him : i ≤ m) (hs : Sep d a m (m + 1))
    (h1 : ∀ k, a ≤ k → k < i → lt (d m) (d k) = false) (h2 : ∀ k, i ≤ k → k < m → lt (d m) (d k) = true) : SortedOn lt (rsh d i m) a (m + 1) := by
  have g1 : ∀ k, a ≤ k → k < i → prec lt (d k) (d m) := fun k q1 q2 => prec_of_not (hs k m q1 (by omega) (Nat.le_refl _) (by omega)) (h1 k q1 q2)
  have g2 : ∀ k, i ≤ k → k < m → prec lt (d m) (d k) := fun k q1 q2 => prec_of_lt (W := W) (h2 k q1 q2)
  intro x y hx hxy hy
  unfold rsh
  repeat' split
  all_goals first | (exfalso; omega) | exact h _ _ (by omega) (by omega) (by omega) | exact g1 _ (by omega) (by omega) | exact g2 _ (by omega) (by omega) | skip

/-- Where the halves are cut: what the search for it shows. -/
structure Cut (lt : Nat → Nat → Bool) (d : Nat → Nat) (a m b mid lo hi s : Nat) : Prop where
  left : ∀ c, lo ≤ c → c < s → lt (d (mid + m - 1 - c)) (d c) = false
  right : ∀ c, s ≤ c → c < hi → lt (d (mid + m - 1 - c)) (d c) = true

/-- The search's bounds. -/
def cutLo (a m b mid : Nat) : Nat := if mid < m then mid + m - b else a
def cutHi (m mid : Nat) : Nat := if mid < m then mid else m

theorem cut_mono (W : Wk lt) {d : Nat → Nat} {a m b mid : Nat} (hl : SortedOn lt d a m) (hr : SortedOn lt d m b) (hs : Sep d a m b) {c c' : Nat} (h1 : a ≤ c) (h2 : c ≤ c') (h3 : c' < m) (h4 : m ≤ mid + m - 1 - c') (h5 : mid + m - 1 - c < b)
    (h : lt (d (mid + m - 1 - c)) (d c) = true) : lt (d (mid + m - 1 - c')) (d c') = true := by
  rcases Nat.lt_or_ge c c' with h6 | h6
  · have g1 : prec lt (d (mid + m - 1 - c)) (d c) := prec_of_lt (W := W) h
    have g2 := hl c c' h1 h6 h3
    have g3 := hr (mid + m - 1 - c') (mid + m - 1 - c) h4 (by omega) h5
    exact lt_of_prec (hs c' (mid + m - 1 - c') (by omega) h3 h4 (by omega)) (prec_trans W g3 (prec_trans W g1 g2))
  · obtain rfl : c = c' := by omega
    exact h

theorem cut_mono' (W : Wk lt) {d : Nat → Nat} {a m b mid : Nat} (hl : SortedOn lt d a m) (hr : SortedOn lt d m b) (hs : Sep d a m b) {c c' : Nat} (h1 : a ≤ c) (h2 : c ≤ c') (h3 : c' < m) (h4 : m ≤ mid + m - 1 - c') (h5 : mid + m - 1 - c < b)
    (h : lt (d (mid + m - 1 - c')) (d c') = false) : lt (d (mid + m - 1 - c)) (d c) = false := by
  cases hx : lt (d (mid + m - 1 - c)) (d c) with
  | false => rfl
  | true => rw [cut_mono W hl hr hs h1 h2 h3 h4 h5 hx] at h; cases h

/-- The row after the rotation: both halves may be merged, and all of the first is before all of the second. -/
theorem cut_rot (W : Wk lt) {d : Nat → Nat} {a m b mid s : Nat} (hl : SortedOn lt d a m) (hr : SortedOn lt d m b) (hs : Sep d a m b) (ham : a < m) (hmb : m < b) (hmid : mid = (a + b) / 2)
    (hlo : cutLo a m b mid ≤ s) (hhi : s ≤ cutHi m mid) (hc : Cut lt d a m b mid (cutLo a m b mid) (cutHi m mid) s) :
    a ≤ s ∧ s ≤ m ∧ s ≤ mid ∧ m ≤ mid + m - s ∧ mid ≤ mid + m - s ∧ mid + m - s ≤ b ∧
    SortedOn lt (rot d s m (mid + m - s)) a s ∧ SortedOn lt (rot d s m (mid + m - s)) s mid ∧ Sep (rot d s m (mid + m - s)) a s mid ∧
    SortedOn lt (rot d s m (mid + m - s)) mid (mid + m - s) ∧ SortedOn lt (rot d s m (mid + m - s)) (mid + m - s) b ∧ Sep (rot d s m (mid + m - s)) mid (mid + m - s) b ∧
    (∀ i j, a ≤ i → i < mid → mid ≤ j → j < b → prec lt (rot d s m (mid + m - s) i) (rot d s m (mid + m - s) j)) := by
  have hb1 : a ≤ s ∧ s ≤ m ∧ s ≤ mid ∧ mid + m - s ≤ b := by
    unfold cutLo at hlo
    unfold cutHi at hhi
    split at hlo <;> rename_i h <;> simp only [h, if_true, if_false] at hhi <;> omega
  obtain ⟨has, hsm, hsmid, heb⟩ := hb1
  -- of the row's places: [a, s) stays; [s, mid) is [m, end); [mid, end) is [s, m); [end, b) stays
  have e1 : ∀ k, k < s → rot d s m (mid + m - s) k = d k := fun k h => by unfold rot; rw [if_pos h]
  have e2 : ∀ k, s ≤ k → k < mid → rot d s m (mid + m - s) k = d (k - s + m) := fun k h h' => by unfold rot; rw [if_neg (by omega), if_pos (by omega)]
  have e3 : ∀ k, mid ≤ k → k < mid + m - s → rot d s m (mid + m - s) k = d (k - (mid - s)) := fun k h h' => by unfold rot; rw [if_neg (by omega), if_neg (by omega), if_pos (by omega)]; congr 1; omega
  have e4 : ∀ k, mid + m - s ≤ k → rot d s m (mid + m - s) k = d k := fun k h => by unfold rot; rw [if_neg (by omega), if_neg (by omega), if_neg (by omega)]
  -- the last of the first lot against the first of the others
  have x1 : ∀ i j, a ≤ i → i < s → mid + m - s ≤ j → j < b → prec lt (d i) (d j) := fun i j h1 h2 h3 h4 => by
    have hlos : cutLo a m b mid < s ∧ cutLo a m b mid ≤ s - 1 := by
      unfold cutLo at hlo ⊢
      split <;> rename_i h <;> simp only [h, if_true, if_false] at hlo <;> omega
    have q := hc.left (s - 1) hlos.2 (by omega)
    rw [show mid + m - 1 - (s - 1) = mid + m - s by omega] at q
    have p1 : prec lt (d (s - 1)) (d (mid + m - s)) := prec_of_not (hs _ _ (by omega) (by omega) (by omega) (by omega)) q
    have p2 : prec lt (d i) (d (mid + m - s)) := by
      rcases Nat.lt_or_ge i (s - 1) with h | h
      · exact prec_trans W (hl i (s - 1) h1 h (by omega)) p1
      · obtain rfl : i = s - 1 := by omega
        exact p1
    rcases Nat.lt_or_ge (mid + m - s) j with h | h
    · exact prec_trans W p2 (hr _ j (by omega) h h4)
    · obtain rfl : j = mid + m - s := by omega
      exact p2
  have x2 : ∀ i j, m ≤ i → i < mid + m - s → s ≤ j → j < m → prec lt (d i) (d j) := fun i j h1 h2 h3 h4 => by
    have hlos : s < cutHi m mid := by
      unfold cutHi at hhi ⊢
      split <;> rename_i h <;> simp only [h, if_true, if_false] at hhi <;> omega
    have q := hc.right s (Nat.le_refl _) hlos
    have p1 : prec lt (d (mid + m - 1 - s)) (d s) := prec_of_lt (W := W) q
    have p2 : prec lt (d i) (d s) := by
      rcases Nat.lt_or_ge i (mid + m - 1 - s) with h | h
      · exact prec_trans W (hr i _ h1 h (by omega)) p1
      · obtain rfl : i = mid + m - 1 - s := by omega
        exact p1
    rcases Nat.lt_or_ge s j with h | h
    · exact prec_trans W p2 (hl s j (by omega) h h4)
    · obtain rfl : j = s := by omega
      exact p2
  refine ⟨has, hsm, hsmid, by omega, by omega, heb, ?_, ?_, ?_, ?_, ?_, ?_, ?_⟩
  · exact (hl.sub (Nat.le_refl _) hsm).congr fun k _ h => e1 k h
  · intro i j h1 h2 h3
    rw [e2 i h1 (by omega), e2 j (by omega) h3]
    exact hr _ _ (by omega) (by omega) (by omega)
  · intro i j h1 h2 h3 h4
    rw [e1 i h2, e2 j h3 h4]
    exact hs _ _ h1 (by omega) (by omega) (by omega)
  · intro i j h1 h2 h3
    rw [e3 i h1 (by omega), e3 j (by omega) h3]
    exact hl _ _ (by omega) (by omega) (by omega)
  · exact (hr.sub (by omega) (Nat.le_refl _)).congr fun k h _ => e4 k h
  · intro i j h1 h2 h3 h4
    rw [e3 i h1 h2, e4 j h3]
    exact hs _ _ (by omega) (by omega) (by omega) (by omega)
  · intro i j h1 h2 h3 h4
    by_cases hi : i < s
    · rw [e1 i hi]
      by_cases hj : j < mid + m - s
      · rw [e3 j h3 hj]
        exact hl _ _ h1 (by omega) (by omega)
      · rw [e4 j (by omega)]
        exact x1 i j h1 hi (by omega) h4
    · rw [e2 i (by omega) h2]
      by_cases hj : j < mid + m - s
      · rw [e3 j h3 hj]
        exact x2 _ _ (by omega) (by omega) (by omega) (by omega)
      · rw [e4 j (by omega)]
        exact hr _ _ (by omega) (by omega) h4

/-- Both halves sorted, each within itself: the whole is. -/
theorem halves_sorted {d e f : Nat → Nat} {a mid b : Nat} (h1 : Sh a mid d e) (h2 : Sh mid b e f) (s1 : SortedOn lt e a mid) (s2 : SortedOn lt f mid b)
    (hx : ∀ i j, a ≤ i → i < mid → mid ≤ j → j < b → prec lt (d i) (d j)) : SortedOn lt f a b := by
  refine SortedOn.join (m := mid) (s1.congr fun k _ h => h2.out k (by omega)) s2 fun i j g1 g2 g3 g4 => ?_
  rw [h2.out i (by omega)]
  obtain ⟨i', i1, i2, i3⟩ := h1.new i g1 g2
  obtain ⟨j', j1, j2, j3⟩ := h2.new j g3 g4
  rw [i3, j3, h1.out j' (by omega)]
  exact hx i' j' i1 i2 j1 j2
end
end Go.Gj

/-
  The order of values is a total order.
-/
namespace Go.Gj
set_option linter.unusedVariables false

theorem sgn_neg' (n : Int) : sgn (-n) = -sgn n := by unfold sgn; repeat' split
                                                     all_goals omega
theorem sgn_lt {n : Int} : sgn n < 0 ↔ n < 0 := by unfold sgn; repeat' split
                                                   all_goals omega
theorem sgn_eq {n : Int} : sgn n = 0 ↔ n = 0 := by unfold sgn; repeat' split
                                                   all_goals omega

theorem cmpKs_anti : ∀ l m : List ByteArray, cmpKs m l = -cmpKs l m
  | [], [] => by simp [cmpKs]
  | [], _ :: _ => by simp only [cmpKs]; omega
  | _ :: _, [] => by simp only [cmpKs]; omega
  | a :: l, b :: m => by
    simp only [cmpKs]
    rw [cmpS_anti a b, cmpKs_anti l m]
    by_cases h : cmpS a b = 0
    · rw [if_pos h, if_pos (by omega)]
    · rw [if_neg h, if_neg (by omega)]

mutual
theorem cmpJ_anti : ∀ a b : J, cmpJ b a = -cmpJ a b
  | .num x, .num y => by simp only [cmpJ]; rw [← sgn_neg']; congr 1; omega
  | .str s, .str t => by simp only [cmpJ]; exact cmpS_anti s t
  | .arr l, .arr m => by simp only [cmpJ]; rw [cmpL_anti l m, sgn_neg']
  | .obj ks vs, .obj ls ws => by
    simp only [cmpJ]
    rw [cmpKs_anti ks ls, cmpL_anti vs ws, sgn_neg', sgn_neg']
    by_cases h : cmpKs ks ls = 0
    · rw [if_pos h, if_pos (by omega)]
    · rw [if_neg h, if_neg (by omega)]
  | .null, .null | .null, .bool false | .null, .bool true | .null, .num _ | .null, .str _ | .null, .arr _ | .null, .obj _ _ => by simp [cmpJ, J.rank, sgn]
  | .bool false, .null | .bool false, .bool false | .bool false, .bool true | .bool false, .num _ | .bool false, .str _ | .bool false, .arr _ | .bool false, .obj _ _ => by simp [cmpJ, J.rank, sgn]
  | .bool true, .null | .bool true, .bool false | .bool true, .bool true | .bool true, .num _ | .bool true, .str _ | .bool true, .arr _ | .bool true, .obj _ _ => by simp [cmpJ, J.rank, sgn]
  | .num _, .null | .num _, .bool false | .num _, .bool true | .num _, .str _ | .num _, .arr _ | .num _, .obj _ _ => by simp [cmpJ, J.rank, sgn]
  | .str _, .null | .str _, .bool false | .str _, .bool true | .str _, .num _ | .str _, .arr _ | .str _, .obj _ _ => by simp [cmpJ, J.rank, sgn]
  | .arr _, .null | .arr _, .bool false | .arr _, .bool true | .arr _, .num _ | .arr _, .str _ | .arr _, .obj _ _ => by simp [cmpJ, J.rank, sgn]
  | .obj _ _, .null | .obj _ _, .bool false | .obj _ _, .bool true | .obj _ _, .num _ | .obj _ _, .str _ | .obj _ _, .arr _ => by simp [cmpJ, J.rank, sgn]
theorem cmpL_anti : ∀ l m : List J, cmpL m l = -cmpL l m
  | [], [] => by simp [cmpL]
  | [], _ :: _ => by simp only [cmpL]; omega
  | _ :: _, [] => by simp only [cmpL]; omega
  | a :: l, b :: m => by
    simp only [cmpL]
    rw [cmpJ_anti a b, cmpL_anti l m]
    by_cases h : cmpJ a b = 0
    · rw [if_pos h, if_pos (by omega)]
    · rw [if_neg h, if_neg (by omega)]
end

theorem cmpS_lt {a b : ByteArray} : cmpS a b < 0 ↔ slt a b = true := by
  unfold cmpS
  by_cases h : slt a b = true
  · simp [h]
  · rw [if_neg h]
    constructor
    · intro h1
      split at h1 <;> omega
    · intro h1
      exact absurd h1 h

theorem cmpS_lt_trans {a b c : ByteArray} (h : cmpS a b < 0) (h' : cmpS b c < 0) : cmpS a c < 0 := cmpS_lt.2 (slt_trans (cmpS_lt.1 h) (cmpS_lt.1 h'))

theorem cmpKs_lt_trans : ∀ l m k : List ByteArray, cmpKs l m < 0 → cmpKs m k < 0 → cmpKs l k < 0
  | [], [], _ => by simp [cmpKs]
  | _ :: _, [], _ => by simp only [cmpKs, List.length_cons, List.length_nil]; omega
  | _, _ :: _, [] => by simp only [cmpKs, List.length_cons, List.length_nil]; omega
  | [], _ :: _, _ :: _ => by simp only [cmpKs, List.length_cons, List.length_nil]; omega
  | a :: l, b :: m, c :: k => by
    simp only [cmpKs]
    intro h1 h2
    by_cases e1 : cmpS a b = 0
    · rw [if_pos e1] at h1
      obtain rfl := cmpS_zero e1
      by_cases e2 : cmpS a c = 0
      · rw [if_pos e2] at h2 ⊢
        exact cmpKs_lt_trans l m k h1 h2
      · rw [if_neg e2] at h2 ⊢
        exact h2
    · rw [if_neg e1] at h1
      by_cases e2 : cmpS b c = 0
      · obtain rfl := cmpS_zero e2
        rw [if_neg e1]
        exact h1
      · rw [if_neg e2] at h2
        have h3 := cmpS_lt_trans h1 h2
        rw [if_neg (by omega)]
        exact h3

theorem cmpJ_rank {a b : J} (h : cmpJ a b < 0) : a.kind ≤ b.kind := by
  by_cases hk : a.kind = b.kind
  · omega
  · rw [cmpJ_ne hk, sgn_lt] at h
    omega

theorem kinds_of {a b c : J} (h1 : cmpJ a b < 0) (h2 : cmpJ b c < 0) : a.kind = c.kind → a.kind = b.kind ∧ b.kind = c.kind := fun hk => by
  have k1 := cmpJ_rank h1
  have k2 := cmpJ_rank h2
  omega
theorem lt_kinds {a b c : J} (h1 : cmpJ a b < 0) (h2 : cmpJ b c < 0) (hk : ¬ a.kind = c.kind) : cmpJ a c < 0 := by
  have k1 := cmpJ_rank h1
  have k2 := cmpJ_rank h2
  rw [cmpJ_ne hk, sgn_lt]
  omega
theorem kind3 {b : J} (h : b.kind = 3) : ∃ y, b = .num y := by rcases b with _ | (_ | _) | _ | _ | _ | ⟨_, _⟩ <;> simp [J.kind] at h <;> exact ⟨_, rfl⟩
theorem kind4 {b : J} (h : b.kind = 4) : ∃ y, b = .str y := by rcases b with _ | (_ | _) | _ | _ | _ | ⟨_, _⟩ <;> simp [J.kind] at h <;> exact ⟨_, rfl⟩
theorem kind5 {b : J} (h : b.kind = 5) : ∃ y, b = .arr y := by rcases b with _ | (_ | _) | _ | _ | _ | ⟨_, _⟩ <;> simp [J.kind] at h <;> exact ⟨_, rfl⟩
theorem kind6 {b : J} (h : b.kind = 6) : ∃ y z, b = .obj y z := by rcases b with _ | (_ | _) | _ | _ | _ | ⟨_, _⟩ <;> simp [J.kind] at h <;> exact ⟨_, _, rfl⟩

mutual
theorem cmpJ_lt_trans : ∀ a b c : J, a.ok → b.ok → c.ok → cmpJ a b < 0 → cmpJ b c < 0 → cmpJ a c < 0
  | .null, b, c, _, _, _, h1, h2 => by
    by_cases hk : J.null.kind = c.kind
    · have := cmpJ_0 (kinds_of h1 h2 hk).1 (by simp [J.kind]); omega
    · exact lt_kinds h1 h2 hk
  | .bool p, b, c, _, _, _, h1, h2 => by
    by_cases hk : (J.bool p).kind = c.kind
    · have := cmpJ_0 (kinds_of h1 h2 hk).1 (by cases p <;> simp [J.kind]); omega
    · exact lt_kinds h1 h2 hk
  | .num x, b, c, _, _, _, h1, h2 => by
    by_cases hk : (J.num x).kind = c.kind
    · have hb := (kinds_of h1 h2 hk).1
      obtain ⟨y, rfl⟩ := kind3 hb.symm
      obtain ⟨z, rfl⟩ := kind3 hk.symm
      simp only [cmpJ, sgn_lt] at h1 h2 ⊢
      omega
    · exact lt_kinds h1 h2 hk
  | .str s, b, c, _, _, _, h1, h2 => by
    by_cases hk : (J.str s).kind = c.kind
    · have hb := (kinds_of h1 h2 hk).1
      obtain ⟨y, rfl⟩ := kind4 hb.symm
      obtain ⟨z, rfl⟩ := kind4 hk.symm
      simp only [cmpJ] at h1 h2 ⊢
      exact cmpS_lt_trans h1 h2
    · exact lt_kinds h1 h2 hk
  | .arr l, b, c, ha, hb0, hc, h1, h2 => by
    by_cases hk : (J.arr l).kind = c.kind
    · have hb := (kinds_of h1 h2 hk).1
      obtain ⟨m, rfl⟩ := kind5 hb.symm
      obtain ⟨k, rfl⟩ := kind5 hk.symm
      simp only [cmpJ, sgn_lt] at h1 h2 ⊢
      exact cmpL_lt_trans l m k ha.2 hb0.2 hc.2 h1 h2
    · exact lt_kinds h1 h2 hk
  | .obj ks vs, b, c, ha, hb0, hc, h1, h2 => by
    by_cases hk : (J.obj ks vs).kind = c.kind
    · have hb := (kinds_of h1 h2 hk).1
      obtain ⟨ls, ws, rfl⟩ := kind6 hb.symm
      obtain ⟨ms, xs, rfl⟩ := kind6 hk.symm
      simp only [cmpJ] at h1 h2 ⊢
      by_cases e1 : cmpKs ks ls = 0
      · rw [if_pos e1, sgn_lt] at h1
        obtain rfl := cmpKs_zero _ _ e1
        by_cases e2 : cmpKs ks ms = 0
        · rw [if_pos e2, sgn_lt] at h2 ⊢
          exact cmpL_lt_trans vs ws xs ha.2.2.2.2 hb0.2.2.2.2 hc.2.2.2.2 h1 h2
        · rw [if_neg e2] at h2 ⊢
          exact h2
      · rw [if_neg e1, sgn_lt] at h1
        by_cases e2 : cmpKs ls ms = 0
        · obtain rfl := cmpKs_zero _ _ e2
          rw [if_neg e1, sgn_lt]
          exact h1
        · rw [if_neg e2, sgn_lt] at h2
          have h3 := cmpKs_lt_trans _ _ _ h1 h2
          rw [if_neg (by omega), sgn_lt]
          exact h3
    · exact lt_kinds h1 h2 hk
theorem cmpL_lt_trans : ∀ l m k : List J, J.oks l → J.oks m → J.oks k → cmpL l m < 0 → cmpL m k < 0 → cmpL l k < 0
  | [], [], _, _, _, _ => by simp [cmpL]
  | _ :: _, [], _, _, _, _ => by simp only [cmpL, List.length_cons, List.length_nil]; omega
  | _, _ :: _, [], _, _, _ => by simp only [cmpL, List.length_cons, List.length_nil]; omega
  | [], _ :: _, _ :: _, _, _, _ => by simp only [cmpL, List.length_cons, List.length_nil]; omega
  | a :: l, b :: m, c :: k, ha, hb, hc => by
    simp only [cmpL]
    intro h1 h2
    by_cases e1 : cmpJ a b = 0
    · rw [if_pos e1] at h1
      obtain rfl := cmpJ_zero _ _ ha.1 hb.1 e1
      by_cases e2 : cmpJ a c = 0
      · rw [if_pos e2] at h2 ⊢
        exact cmpL_lt_trans l m k ha.2 hb.2 hc.2 h1 h2
      · rw [if_neg e2] at h2 ⊢
        exact h2
    · rw [if_neg e1] at h1
      by_cases e2 : cmpJ b c = 0
      · obtain rfl := cmpJ_zero _ _ hb.1 hc.1 e2
        rw [if_neg e1]
        exact h1
      · rw [if_neg e2] at h2
        have h3 := cmpJ_lt_trans a b c ha.1 hb.1 hc.1 h1 h2
        rw [if_neg (by omega)]
        exact h3
end

/-- The order of places by their keys, for the sort. -/
def keyLt (ks : List J) (i j : Nat) : Bool := decide (cmpJ (ks.getD i .null) (ks.getD j .null) < 0)

theorem getD_ok {ks : List J} (h : ∀ k ∈ ks, k.ok) (i : Nat) : (ks.getD i .null).ok := by
  rw [List.getD_eq_getElem?_getD]
  rcases Nat.lt_or_ge i ks.length with hi | hi
  · rw [List.getElem?_eq_getElem hi]; exact h _ (List.getElem_mem hi)
  · rw [List.getElem?_eq_none hi]; trivial

theorem keyWk {ks : List J} (h : ∀ k ∈ ks, k.ok) : Wk (keyLt ks) := by
  refine ⟨fun x y hx => ?_, fun x y z h1 h2 => ?_⟩
  · have := of_decide_eq_true hx
    refine decide_eq_false ?_
    rw [cmpJ_anti]
    omega
  · have g1 := of_decide_eq_false h1
    have g2 := of_decide_eq_false h2
    refine decide_eq_false fun g3 => ?_
    have e1 := cmpJ_anti (ks.getD y .null) (ks.getD x .null)
    have e2 := cmpJ_anti (ks.getD z .null) (ks.getD y .null)
    have ox := getD_ok h x
    have oy := getD_ok h y
    have oz := getD_ok h z
    by_cases z1 : cmpJ (ks.getD x .null) (ks.getD y .null) = 0
    · rw [cmpJ_zero _ _ ox oy z1] at g3
      exact g2 g3
    · by_cases z2 : cmpJ (ks.getD y .null) (ks.getD z .null) = 0
      · rw [← cmpJ_zero _ _ oy oz z2] at g3
        exact g1 g3
      · have := cmpJ_lt_trans _ _ _ ox oy oz (by omega) (by omega)
        have := cmpJ_anti (ks.getD x .null) (ks.getD z .null)
        omega
end Go.Gj

/-
  The order in which elements stand by their keys: ranks; it is the one that any stable sort gives.
-/
namespace Go.Gj
set_option linter.unusedVariables false

def atR (ks : List J) (out : List Nat) (i : Nat) : Nat → Nat
  | 0 => 0
  | a + 1 => if cmpJ (ks.getD (out.getD a 0) .null) (ks.getD i .null) > 0 then atR ks out i a else a + 1

theorem atR_le (ks : List J) (out : List Nat) (i : Nat) : ∀ a, atR ks out i a ≤ a
  | 0 => Nat.le_refl _
  | a + 1 => by
    unfold atR
    split
    · have := atR_le ks out i a; omega
    · omega
theorem atR_after (ks : List J) (out : List Nat) (i : Nat) : ∀ a j, atR ks out i a ≤ j → j < a → cmpJ (ks.getD (out.getD j 0) .null) (ks.getD i .null) > 0
  | 0, _, _, h => by omega
  | a + 1, j, h1, h2 => by
    unfold atR at h1
    split at h1
    · rename_i h
      by_cases hj : j = a
      · subst hj; exact h
      · exact atR_after ks out i a j h1 (by omega)
    · omega
theorem atR_before (ks : List J) (out : List Nat) (i : Nat) : ∀ a, atR ks out i a = 0 ∨ ¬ cmpJ (ks.getD (out.getD (atR ks out i a - 1) 0) .null) (ks.getD i .null) > 0
  | 0 => .inl rfl
  | a + 1 => by
    unfold atR
    split
    · exact atR_before ks out i a
    · rename_i h
      exact .inr (by simpa using h)

def insR (ks : List J) (out : List Nat) (i : Nat) : List Nat := out.take (atR ks out i out.length) ++ i :: out.drop (atR ks out i out.length)
def rankN (ks : List J) : Nat → List Nat
  | 0 => []
  | n + 1 => insR ks (rankN ks n) n
def ranks (ks : List J) : List Nat := rankN ks ks.length

theorem getD_at {l : List Nat} {j : Nat} (h : j < l.length) : l.getD j 0 = l[j] := by
  rw [List.getD_eq_getElem?_getD, List.getElem?_eq_getElem h]; rfl

theorem insR_ok {ks : List J} (hok : ∀ k ∈ ks, k.ok) {out : List Nat} {n : Nat} (hp : out.Pairwise (prec (keyLt ks))) (hm : ∀ x ∈ out, x < n) : (insR ks out n).Pairwise (prec (keyLt ks)) := by
  have W := keyWk hok
  unfold insR
  generalize ha : atR ks out n out.length = a
  have hal : a ≤ out.length := by rw [← ha]; exact atR_le _ _ _ _
  have h1 : ∀ x ∈ out.take a, prec (keyLt ks) x n := by
    intro x hx
    obtain ⟨j, hj, rfl⟩ := List.getElem_of_mem hx
    have hj' : j < a := by rw [List.length_take] at hj; omega
    rw [List.getElem_take]
    have hb := atR_before ks out n out.length
    rw [ha] at hb
    rcases hb with hb | hb
    · omega
    · have hla : a - 1 < out.length := by omega
      rw [getD_at hla] at hb
      have hlast : prec (keyLt ks) out[a - 1] n := by
        refine ⟨?_, .inl (hm _ (List.getElem_mem hla))⟩
        unfold keyLt
        refine decide_eq_false fun h => hb ?_
        rw [cmpJ_anti]
        omega
      rcases Nat.lt_or_ge j (a - 1) with hja | hja
      · exact prec_trans W (List.pairwise_iff_getElem.1 hp j (a - 1) (by omega) hla hja) hlast
      · obtain rfl : j = a - 1 := by omega
        exact hlast
  have h2 : ∀ x ∈ out.drop a, prec (keyLt ks) n x := by
    intro x hx
    obtain ⟨j, hj, rfl⟩ := List.getElem_of_mem hx
    rw [List.length_drop] at hj
    rw [List.getElem_drop]
    have hb := atR_after ks out n out.length (a + j) (by rw [ha]; omega) (by omega)
    rw [getD_at (by omega)] at hb
    have hlt : keyLt ks n out[a + j] = true := by
      unfold keyLt
      refine decide_eq_true ?_
      rw [cmpJ_anti]
      omega
    exact ⟨W.asy _ _ hlt, .inr hlt⟩
  rw [List.pairwise_append]
  refine ⟨hp.sublist (List.take_sublist _ _), List.pairwise_cons.2 ⟨h2, hp.sublist (List.drop_sublist _ _)⟩, fun x hx y hy => ?_⟩
  rcases List.mem_cons.1 hy with rfl | hy
  · exact h1 x hx
  · exact prec_trans W (h1 x hx) (h2 y hy)

theorem mem_insR (ks : List J) (out : List Nat) (n x : Nat) : x ∈ insR ks out n ↔ x ∈ out ∨ x = n := by
  unfold insR
  generalize atR ks out n out.length = a
  rw [List.mem_append, List.mem_cons]
  constructor
  · rintro (h | h | h)
    · exact .inl (List.mem_of_mem_take h)
    · exact .inr h
    · exact .inl (List.mem_of_mem_drop h)
  · rintro (h | h)
    · rw [← List.take_append_drop a out, List.mem_append] at h
      rcases h with h | h
      · exact .inl h
      · exact .inr (.inr h)
    · exact .inr (.inl h)

theorem length_insR (ks : List J) (out : List Nat) (n : Nat) : (insR ks out n).length = out.length + 1 := by
  have := atR_le ks out n out.length
  simp only [insR, List.length_append, List.length_take, List.length_cons, List.length_drop]
  omega

theorem rankN_ok {ks : List J} (hok : ∀ k ∈ ks, k.ok) : ∀ n, (rankN ks n).Pairwise (prec (keyLt ks)) ∧ (∀ x, x ∈ rankN ks n ↔ x < n) ∧ (rankN ks n).length = n
  | 0 => ⟨List.Pairwise.nil, fun x => by simp [rankN], rfl⟩
  | n + 1 => by
    obtain ⟨h1, h2, h3⟩ := rankN_ok hok n
    refine ⟨insR_ok hok h1 (fun x hx => (h2 x).1 hx), fun x => ?_, by simp only [rankN]; rw [length_insR, h3]⟩
    simp only [rankN]
    rw [mem_insR, h2]
    omega

/-- Two strictly sorted lists of the same elements are one. -/
theorem eq_of_mem {R : Nat → Nat → Prop} (hirr : ∀ x, ¬ R x x) (hasy : ∀ x y, R x y → R y x → False) : ∀ {l m : List Nat}, l.Pairwise R → m.Pairwise R → (∀ x, x ∈ l ↔ x ∈ m) → l = m
  | [], [], _, _, _ => rfl
  | [], b :: m, _, _, h => absurd ((h b).2 List.mem_cons_self) (by simp)
  | a :: l, [], _, _, h => absurd ((h a).1 List.mem_cons_self) (by simp)
  | a :: l, b :: m, hl, hm, h => by
    rw [List.pairwise_cons] at hl hm
    have hab : a = b := by
      rcases List.mem_cons.1 ((h a).1 List.mem_cons_self) with e | e
      · exact e
      · rcases List.mem_cons.1 ((h b).2 List.mem_cons_self) with e' | e'
        · exact e'.symm
        · exact (hasy _ _ (hl.1 b e') (hm.1 a e)).elim
    subst hab
    have : l = m := eq_of_mem hirr hasy hl.2 hm.2 fun x => by
      constructor
      · intro hx
        rcases List.mem_cons.1 ((h x).1 (List.mem_cons_of_mem _ hx)) with e | e
        · subst e; exact absurd (hl.1 x hx) (hirr x)
        · exact e
      · intro hx
        rcases List.mem_cons.1 ((h x).2 (List.mem_cons_of_mem _ hx)) with e | e
        · subst e; exact absurd (hm.1 x hx) (hirr x)
        · exact e
    rw [this]

/-- What a stable sort leaves is the order of the ranks. -/
theorem ranks_eq {ks : List J} (hok : ∀ k ∈ ks, k.ok) {d : Nat → Nat} (hs : Sh 0 ks.length (fun k => k) d) (hso : SortedOn (keyLt ks) d 0 ks.length) : (List.range ks.length).map d = ranks ks := by
  obtain ⟨h1, h2, _⟩ := rankN_ok hok ks.length
  refine eq_of_mem (R := prec (keyLt ks)) (fun x h => prec_ne h rfl) (fun x y h h' => prec_asymm h h') ?_ h1 fun x => ?_
  · refine List.pairwise_iff_getElem.2 fun i j hi hj hij => ?_
    simp only [List.length_map, List.length_range] at hi hj
    simp only [List.getElem_map, List.getElem_range]
    exact hso i j (Nat.zero_le _) hij hj
  · show x ∈ (List.range ks.length).map d ↔ x ∈ rankN ks ks.length
    rw [h2]
    constructor
    · intro hx
      obtain ⟨k, hk, rfl⟩ := List.mem_map.1 hx
      rw [List.mem_range] at hk
      obtain ⟨k', _, h4, h5⟩ := hs.new k (Nat.zero_le _) hk
      rw [h5]; exact h4
    · intro hx
      obtain ⟨k', _, h4, h5⟩ := hs.old x (Nat.zero_le _) hx
      exact List.mem_map.2 ⟨k', List.mem_range.2 h4, h5.symm⟩

theorem ranks_at {ks : List J} (hok : ∀ k ∈ ks, k.ok) {d : Nat → Nat} (hs : Sh 0 ks.length (fun k => k) d) (hso : SortedOn (keyLt ks) d 0 ks.length) (k : Nat) (hk : k < ks.length) : (ranks ks)[k]? = some (d k) := by
  rw [← ranks_eq hok hs hso, List.getElem?_map, List.getElem?_range hk]
  rfl

/-- Elements in the order of their keys. -/
def ordL (l ks : List J) : List J := (ranks ks).map fun i => l.getD i .null
theorem ordL_length {l ks : List J} (hok : ∀ k ∈ ks, k.ok) : (ordL l ks).length = ks.length := by
  unfold ordL ranks
  rw [List.length_map, (rankN_ok hok ks.length).2.2]
theorem ordL_at {l ks : List J} (hok : ∀ k ∈ ks, k.ok) {d : Nat → Nat} (hs : Sh 0 ks.length (fun k => k) d) (hso : SortedOn (keyLt ks) d 0 ks.length) (k : Nat) (hk : k < ks.length) : (ordL l ks)[k]? = some (l.getD (d k) .null) := by
  unfold ordL
  rw [List.getElem?_map, ranks_at hok hs hso k hk]
  rfl
end Go.Gj

/-
  The first smallest and the last greatest of a row.
-/
namespace Go.Gj
set_option linter.unusedVariables false

def mmN (ks : List J) (isMin : Bool) : Nat → Nat
  | 0 => 0
  | i + 1 => if i = 0 then 0 else if decide (cmpJ (ks.getD (mmN ks isMin i) .null) (ks.getD i .null) > 0) = isMin then i else mmN ks isMin i

theorem mmN_lt (ks : List J) (isMin : Bool) : ∀ i, 0 < i → mmN ks isMin i < i
  | 0, h => by omega
  | i + 1, _ => by
    unfold mmN
    by_cases h0 : i = 0
    · rw [if_pos h0]; omega
    · rw [if_neg h0]
      have := mmN_lt ks isMin i (by omega)
      split <;> omega

theorem mm_min {ks : List J} (hok : ∀ k ∈ ks, k.ok) : ∀ i x, x < i → x ≠ mmN ks true i → prec (keyLt ks) (mmN ks true i) x
  | 0, _, h, _ => by omega
  | i + 1, x, hx, hne => by
    have W := keyWk hok
    unfold mmN at hne ⊢
    by_cases h0 : i = 0
    · rw [if_pos h0] at hne ⊢; omega
    · rw [if_neg h0] at hne ⊢
      have hj := mmN_lt ks true i (by omega)
      have ih := mm_min hok i
      by_cases hc : cmpJ (ks.getD (mmN ks true i) .null) (ks.getD i .null) > 0
      · have hd : decide (cmpJ (ks.getD (mmN ks true i) .null) (ks.getD i .null) > 0) = true := decide_eq_true hc
        rw [if_pos hd] at hne ⊢
        have hlt : keyLt ks i (mmN ks true i) = true := by
          unfold keyLt
          refine decide_eq_true ?_
          rw [cmpJ_anti]; omega
        have hp : prec (keyLt ks) i (mmN ks true i) := ⟨W.asy _ _ hlt, .inr hlt⟩
        by_cases hxj : x = mmN ks true i
        · rw [hxj]; exact hp
        · exact prec_trans W hp (ih x (by omega) hxj)
      · have hd : ¬ (decide (cmpJ (ks.getD (mmN ks true i) .null) (ks.getD i .null) > 0) = true) := by simpa using hc
        rw [if_neg hd] at hne ⊢
        by_cases hxi : x = i
        · subst hxi
          refine ⟨?_, .inl hj⟩
          unfold keyLt
          refine decide_eq_false fun h => ?_
          rw [cmpJ_anti] at h
          omega
        · exact ih x (by omega) hne

theorem mm_max {ks : List J} (hok : ∀ k ∈ ks, k.ok) : ∀ i x, x < i → x ≠ mmN ks false i → prec (keyLt ks) x (mmN ks false i)
  | 0, _, h, _ => by omega
  | i + 1, x, hx, hne => by
    have W := keyWk hok
    unfold mmN at hne ⊢
    by_cases h0 : i = 0
    · rw [if_pos h0] at hne ⊢; omega
    · rw [if_neg h0] at hne ⊢
      have hj := mmN_lt ks false i (by omega)
      have ih := mm_max hok i
      by_cases hc : cmpJ (ks.getD (mmN ks false i) .null) (ks.getD i .null) > 0
      · have hd : ¬ (decide (cmpJ (ks.getD (mmN ks false i) .null) (ks.getD i .null) > 0) = false) := by simpa using hc
        rw [if_neg hd] at hne ⊢
        by_cases hxi : x = i
        · subst hxi
          have hlt : keyLt ks x (mmN ks false x) = true := by
            unfold keyLt
            refine decide_eq_true ?_
            rw [cmpJ_anti]; omega
          exact ⟨W.asy _ _ hlt, .inr hlt⟩
        · exact ih x (by omega) hne
      · have hd : decide (cmpJ (ks.getD (mmN ks false i) .null) (ks.getD i .null) > 0) = false := decide_eq_false hc
        rw [if_pos hd] at hne ⊢
        have hp : prec (keyLt ks) (mmN ks false i) i := by
          refine ⟨?_, .inl hj⟩
          unfold keyLt
          refine decide_eq_false fun h => ?_
          rw [cmpJ_anti] at h
          omega
        by_cases hxj : x = mmN ks false i
        · rw [hxj]; exact hp
        · exact prec_trans W (ih x (by omega) hxj) hp

theorem ranks_length {ks : List J} (hok : ∀ k ∈ ks, k.ok) : (ranks ks).length = ks.length := (rankN_ok hok ks.length).2.2

/-- The first of the order is the first smallest. -/
theorem ranks_min {ks : List J} (hok : ∀ k ∈ ks, k.ok) (h0 : 0 < ks.length) : (ranks ks)[0]? = some (mmN ks true ks.length) := by
  obtain ⟨h1, h2, h3⟩ := rankN_ok hok ks.length
  have hl : 0 < (rankN ks ks.length).length := by omega
  show (rankN ks ks.length)[0]? = _
  rw [List.getElem?_eq_getElem hl]
  congr 1
  refine Classical.byContradiction fun hne => ?_
  have hx : (rankN ks ks.length)[0] < ks.length := (h2 _).1 (List.getElem_mem hl)
  have g1 := mm_min hok ks.length _ hx hne
  obtain ⟨j, hj, hje⟩ := List.getElem_of_mem ((h2 _).2 (mmN_lt ks true ks.length h0))
  have hj0 : 0 < j := Nat.pos_of_ne_zero fun e => by subst e; exact hne hje
  have g2 := List.pairwise_iff_getElem.1 h1 0 j hl hj hj0
  rw [hje] at g2
  exact prec_asymm g1 g2

theorem ranks_max {ks : List J} (hok : ∀ k ∈ ks, k.ok) (h0 : 0 < ks.length) : (ranks ks)[ks.length - 1]? = some (mmN ks false ks.length) := by
  obtain ⟨h1, h2, h3⟩ := rankN_ok hok ks.length
  have hl : ks.length - 1 < (rankN ks ks.length).length := by omega
  show (rankN ks ks.length)[ks.length - 1]? = _
  rw [List.getElem?_eq_getElem hl]
  congr 1
  refine Classical.byContradiction fun hne => ?_
  have hx : (rankN ks ks.length)[ks.length - 1] < ks.length := (h2 _).1 (List.getElem_mem hl)
  have g1 := mm_max hok ks.length _ hx hne
  obtain ⟨j, hj, hje⟩ := List.getElem_of_mem ((h2 _).2 (mmN_lt ks false ks.length h0))
  have hj0 : j < ks.length - 1 := by
    rcases Nat.lt_or_ge j (ks.length - 1) with h | h
    · exact h
    · obtain rfl : j = ks.length - 1 := by omega
      exact absurd hje hne
  have g2 := List.pairwise_iff_getElem.1 h1 j (ks.length - 1) hj hl hj0
  rw [hje] at g2
  exact prec_asymm g1 g2
end Go.Gj
