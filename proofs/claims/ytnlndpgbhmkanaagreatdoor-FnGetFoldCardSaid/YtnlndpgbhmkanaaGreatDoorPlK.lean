/-
  Keys: their order is total; rising keys are distinct.
-/
import Derived.Test.YtnlndpgbhmkanaaGreatDoorPlB
import Derived.ChangeKeysEq
namespace Go.Gj

theorem bl_trans : ∀ (a b c : List UInt8), Op.bytesLess a b = true → Op.bytesLess b c = true → Op.bytesLess a c = true
  | _, [], _, h, _ => by cases ‹List UInt8› <;> simp [Op.bytesLess] at h
  | _, _ :: _, [], _, h => by simp [Op.bytesLess] at h
  | [], _ :: _, _ :: _, _, _ => by simp [Op.bytesLess]
  | a :: x, b :: y, c :: z, h1, h2 => by
    simp only [Op.bytesLess, Bool.or_eq_true, Bool.and_eq_true, decide_eq_true_eq, beq_iff_eq] at h1 h2 ⊢
    rcases h1 with h1 | ⟨rfl, h1⟩
    · rcases h2 with h2 | ⟨rfl, h2⟩
      · exact .inl (UInt8.lt_trans h1 h2)
      · exact .inl h1
    · rcases h2 with h2 | ⟨rfl, h2⟩
      · exact .inl h2
      · exact .inr ⟨rfl, bl_trans x y z h1 h2⟩

theorem bl_asymm : ∀ (a b : List UInt8), Op.bytesLess a b = true → Op.bytesLess b a = false := by
  intro a b h
  cases h2 : Op.bytesLess b a with
  | false => rfl
  | true => have := bl_trans a b a h h2; rw [bytesLess_irrefl] at this; cases this

theorem bl_total : ∀ (a b : List UInt8), Op.bytesLess a b = false → Op.bytesLess b a = false → a = b
  | [], [], _, _ => rfl
  | [], _ :: _, h, _ => by simp [Op.bytesLess] at h
  | _ :: _, [], _, h => by simp [Op.bytesLess] at h
  | a :: x, b :: y, h1, h2 => by
    simp only [Op.bytesLess, Bool.or_eq_false_iff, Bool.and_eq_false_iff, decide_eq_false_iff_not, beq_eq_false_iff_ne] at h1 h2
    have e : a = b := by
      have p := h1.1; have q := h2.1
      rw [UInt8.lt_iff_toNat_lt] at p q
      exact UInt8.toNat_inj.1 (by omega)
    subst e
    rw [bl_total x y (h1.2.resolve_left (by simp)) (h2.2.resolve_left (by simp))]

theorem slt_trans {a b c : ByteArray} (h1 : slt a b = true) (h2 : slt b c = true) : slt a c = true := bl_trans _ _ _ h1 h2
theorem slt_asymm {a b : ByteArray} (h : slt a b = true) : slt b a = false := bl_asymm _ _ h
theorem ba_toList_inj {a b : ByteArray} (h : a.toList = b.toList) : a = b := by
  rw [ByteArray.toList_eq, ByteArray.toList_eq] at h
  rcases a with ⟨⟨a⟩⟩; rcases b with ⟨⟨b⟩⟩
  simp at h; rw [h]
theorem slt_total {a b : ByteArray} (h1 : slt a b = false) (h2 : slt b a = false) : a = b := ba_toList_inj (bl_total _ _ h1 h2)

theorem cmpS_zero {a b : ByteArray} (h : cmpS a b = 0) : a = b := by
  unfold cmpS at h
  split at h
  · omega
  · split at h
    · rename_i h2; exact ba_toList_inj (by simpa using h2)
    · omega
theorem cmpS_anti (a b : ByteArray) : cmpS b a = -cmpS a b := by
  unfold cmpS
  cases h1 : slt a b with
  | true => 
    rw [slt_asymm h1]
    have hne : ¬ (b.toList == a.toList) = true := by intro e; rw [ba_toList_inj (a := b) (b := a) (by simpa using e), slt_irrefl] at h1; cases h1
    simp [hne]
  | false =>
    cases h2 : slt b a with
    | true => 
      have hne : ¬ (a.toList == b.toList) = true := by intro e; rw [ba_toList_inj (a := a) (b := b) (by simpa using e), slt_irrefl] at h2; cases h2
      simp [hne]
    | false => rw [slt_total h1 h2]; simp

theorem rises_tail {a : ByteArray} {l : List ByteArray} (h : rises (a :: l)) : rises l := by
  cases l with
  | nil => trivial
  | cons b l => exact h.2
theorem rises_all {a : ByteArray} : ∀ {l : List ByteArray}, rises (a :: l) → ∀ x ∈ l, slt a x = true
  | [], _, _, h => by cases h
  | b :: l, h, x, hx => by
    rcases List.mem_cons.1 hx with rfl | hx
    · exact h.1
    · exact slt_trans h.1 (rises_all h.2 x hx)
theorem rises_lt : ∀ {l : List ByteArray}, rises l → ∀ i j (hi : i < j) (hj : j < l.length), slt (l[i]'(by omega)) l[j] = true
  | [], _, _, _, _, hj => by simp at hj
  | a :: l, h, 0, j + 1, _, hj => rises_all h _ (by simp)
  | a :: l, h, i + 1, j + 1, hi, hj => by simpa using rises_lt (rises_tail h) i j (by omega) (by simpa using hj)
theorem rises_nodup : ∀ {l : List ByteArray}, rises l → l.Nodup
  | [], _ => List.nodup_nil
  | a :: l, h => List.nodup_cons.2 ⟨(fun hm => absurd (rises_all h a hm) (by rw [slt_irrefl]; decide)), rises_nodup (rises_tail h)⟩
theorem rises_fresh {l : List ByteArray} (h : rises l) (k : Nat) (hk : k < l.length) : l[k] ∉ l.take k := by
  intro hm
  obtain ⟨i, hi, e⟩ := List.mem_iff_getElem.1 hm
  rw [List.getElem_take] at e
  have hik : i < k := by simp at hi; omega
  have := rises_lt h i k hik hk
  rw [e, slt_irrefl] at this; cases this

theorem sgn_zero {n : Int} (h : sgn n = 0) : n = 0 := by
  unfold sgn at h
  split at h
  · omega
  · split at h <;> omega

mutual
/-- The order tells values apart. -/
theorem cmpJ_zero : ∀ a b : J, a.ok → b.ok → cmpJ a b = 0 → a = b
  | .num x, .num y, _, _, h => by
    have h : sgn (x - y) = 0 := by simpa only [cmpJ] using h
    have := sgn_zero h
    rw [show x = y by omega]
  | .str s, .str t, _, _, h => by
    have h : cmpS s t = 0 := by simpa only [cmpJ] using h
    rw [cmpS_zero h]
  | .arr l, .arr m, ha, hb, h => by
    have : cmpL l m = 0 := sgn_zero (by simpa only [cmpJ] using h)
    rw [cmpL_zero l m ha.2 hb.2 this]
  | .obj ks vs, .obj ls ws, ha, hb, h => by
    simp only [cmpJ] at h
    by_cases e : cmpKs ks ls = 0
    · rw [if_pos e] at h
      have h2 : cmpL vs ws = 0 := sgn_zero h
      rw [cmpKs_zero ks ls e, cmpL_zero vs ws ha.2.2.2.2 hb.2.2.2.2 h2]
    · rw [if_neg e] at h; exact absurd (sgn_zero h) e
  | .null, .null, _, _, h => rfl
  | .null, .bool false, _, _, h | .null, .bool true, _, _, h | .null, .num _, _, _, h | .null, .str _, _, _, h | .null, .arr _, _, _, h | .null, .obj _ _, _, _, h => by simp [cmpJ, J.rank, sgn] at h
  | .bool false, .bool false, _, _, h => rfl
  | .bool false, .null, _, _, h | .bool false, .bool true, _, _, h | .bool false, .num _, _, _, h | .bool false, .str _, _, _, h | .bool false, .arr _, _, _, h | .bool false, .obj _ _, _, _, h => by simp [cmpJ, J.rank, sgn] at h
  | .bool true, .bool true, _, _, h => rfl
  | .bool true, .null, _, _, h | .bool true, .bool false, _, _, h | .bool true, .num _, _, _, h | .bool true, .str _, _, _, h | .bool true, .arr _, _, _, h | .bool true, .obj _ _, _, _, h => by simp [cmpJ, J.rank, sgn] at h
  | .num _, .null, _, _, h | .num _, .bool false, _, _, h | .num _, .bool true, _, _, h | .num _, .str _, _, _, h | .num _, .arr _, _, _, h | .num _, .obj _ _, _, _, h => by simp [cmpJ, J.rank, sgn] at h
  | .str _, .null, _, _, h | .str _, .bool false, _, _, h | .str _, .bool true, _, _, h | .str _, .num _, _, _, h | .str _, .arr _, _, _, h | .str _, .obj _ _, _, _, h => by simp [cmpJ, J.rank, sgn] at h
  | .arr _, .null, _, _, h | .arr _, .bool false, _, _, h | .arr _, .bool true, _, _, h | .arr _, .num _, _, _, h | .arr _, .str _, _, _, h | .arr _, .obj _ _, _, _, h => by simp [cmpJ, J.rank, sgn] at h
  | .obj _ _, .null, _, _, h | .obj _ _, .bool false, _, _, h | .obj _ _, .bool true, _, _, h | .obj _ _, .num _, _, _, h | .obj _ _, .str _, _, _, h | .obj _ _, .arr _, _, _, h => by simp [cmpJ, J.rank, sgn] at h
theorem cmpL_zero : ∀ l m : List J, J.oks l → J.oks m → cmpL l m = 0 → l = m
  | [], [], _, _, _ => rfl
  | [], _ :: _, _, _, h => by simp [cmpL] at h; omega
  | _ :: _, [], _, _, h => by simp [cmpL] at h; omega
  | a :: l, b :: m, ha, hb, h => by
    simp only [cmpL] at h
    by_cases e : cmpJ a b = 0
    · rw [if_pos e] at h
      rw [cmpJ_zero a b ha.1 hb.1 e, cmpL_zero l m ha.2 hb.2 h]
    · rw [if_neg e] at h; exact absurd h e
theorem cmpKs_zero : ∀ l m : List ByteArray, cmpKs l m = 0 → l = m
  | [], [], _ => rfl
  | [], _ :: _, h => by simp [cmpKs] at h; omega
  | _ :: _, [], h => by simp [cmpKs] at h; omega
  | a :: l, b :: m, h => by
    simp only [cmpKs] at h
    by_cases e : cmpS a b = 0
    · rw [if_pos e] at h
      rw [cmpS_zero e, cmpKs_zero l m h]
    · rw [if_neg e] at h; exact absurd h e
end
end Go.Gj
