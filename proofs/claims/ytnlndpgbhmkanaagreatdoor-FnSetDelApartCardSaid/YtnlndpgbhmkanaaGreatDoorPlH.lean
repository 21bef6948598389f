/-
  FnHasNot: plain law.
-/
import Derived.Test.YtnlndpgbhmkanaaGreatDoorPlS
import Derived.Test.YtnlndpgbhmkanaaGreatDoorWHas
namespace Go.Gj

theorem hasAt_strange {x y : J} (h : hasAt x y) : strange x y = false := by
  cases x <;> cases y <;> simp [hasAt] at h <;> rfl

theorem setJ_one {x y : J} (hk : keyOk y) (ht : hasAt x y) (hx : x.okn 2000) (hy : y.okn 2000) : ∃ z, setJ x [y] .null = some z ∧ z.okn 2001 ∧ hasAt z y ∧ hasJ z y = true := by
  have key : ∀ z, setJ x [y] .null = some z → z.okn 2001 := fun z hz => setJ_okn (n := 2000) (Nat.le_refl _) [y] x .null z (fun k hk' => by obtain rfl : k = y := (by simpa using hk'); exact ⟨hk, hy⟩) hx trivial hz
  cases x <;> cases y <;> simp only [hasAt] at ht
  · rename_i l h
    refine ⟨_, rfl, key _ rfl, trivial, ?_⟩
    simp only [hasJ, setAt_length, decide_eq_true_eq]
    omega
  · rename_i ks vs s
    refine ⟨_, rfl, key _ rfl, trivial, ?_⟩
    exact (any_mem _ _).2 ((putK_keys ks vs s .null hx.1 s).2 (.inr rfl))

theorem idxJ_hasnot {x y : J} (ht : hasAt x y) (h : hasJ x y = false) : idxJ x y = some .null := by
  cases x <;> cases y <;> simp only [hasAt] at ht
  · rename_i l m
    simp only [hasJ, decide_eq_false_iff_not] at h
    simp only [idxJ]
    rw [List.getD_eq_getElem?_getD, List.getElem?_eq_none (by omega)]
    rfl
  · rename_i ks vs s
    have hn : s ∉ ks := fun hm => by
      have := (any_mem ks s).2 hm
      simp only [hasJ] at h
      rw [h] at this; cases this
    simp only [idxJ]
    rw [getK_none ks vs s hn]
end Go.Gj
