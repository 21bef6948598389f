/-
  A region that draws its order and stores at its end: what a load takes first must hold only up to the stores.
-/
import Derived.Test.YtnlndpgbhmkanaaGreatDoorKitX
import Derived.Deep.RegionHeld3
namespace Go.Gj
set_option linter.unusedSimpArgs false
set_option linter.unusedVariables false
set_option linter.unnecessarySimpa false
open Go

section
variable {P : Program} {ops : Array Oper} {Q : Exit → Act → World → Prop} {md : Region.Mode} {tl : Nat → Bool} {S T : World → Prop}

/-- Whatever order is picked from here on; T holds behind every operation, S behind every one that is no late one. -/
def wpAnyS (P : Program) (md : Region.Mode) (ops : Array Oper) (Q : Exit → Act → World → Prop) (tl : Nat → Bool) (S T : World → Prop) : Nat → Array Bool → Act → World → Prop
  | 0, listed, a, w => Region.ready md ops listed = [] ∧ Q .normal a w
  | fuel + 1, listed, a, w =>
    (Region.ready md ops listed = [] → Q .normal a w) ∧
    ∀ i ∈ Region.ready md ops listed, wpOp P ops Q i (fun a' w' => (T w' ∧ (tl i = false → S w → S w')) ∧ wpAnyS P md ops Q tl S T fuel (listed.setIfInBounds i true) a' w') a w

theorem wpAny_of_S : ∀ (fuel : Nat) (listed : Array Bool) (a : Act) (w : World), wpAnyS P md ops Q tl S T fuel listed a w → wpAny P md ops Q fuel listed a w
  | 0, _, _, _, h => h
  | fuel + 1, _, _, _, h => ⟨h.1, fun i hi => wpOp_mono (fun a' w' h' => wpAny_of_S fuel _ a' w' h'.2) (h.2 i hi)⟩

/-- Every late operation waits for number i. -/
def waitsB (md : Region.Mode) (ops : Array Oper) (tl : Nat → Bool) (i : Nat) : Bool :=
  (List.range ops.size).all fun j => !tl j || match ops[j]? with
    | some oj => oj.after.any (fun e => Region.binds md e && e.on == i)
    | none => true

theorem waitsB_spec {i j : Nat} {oj : Oper} (h : waitsB md ops tl i = true) (hj : ops[j]? = some oj) (ht : tl j = true) : ∃ e ∈ oj.after, Region.binds md e = true ∧ e.on = i := by
  have h1 := List.all_eq_true.1 h j (List.mem_range.2 (Array.getElem?_eq_some_iff.1 hj).1)
  simp only [ht, Bool.not_true, Bool.false_or, hj] at h1
  obtain ⟨e, he, hb⟩ := Array.any_eq_true'.1 h1
  simp only [Bool.and_eq_true, beq_iff_eq] at hb
  exact ⟨e, he, hb.1, hb.2⟩

theorem notOn {i : Nat} {oj : Oper} {listed : Array Bool} (h0 : listed.getD i true = false) (hall : ∀ e ∈ oj.after, Region.binds md e = true → listed.getD e.on false = true) :
    ∀ e ∈ oj.after, Region.binds md e = true → e.on ≠ i := fun e he hb heq => by
  have h1 := hall e he hb
  rw [heq] at h1
  rcases Nat.lt_or_ge i listed.size with h' | h'
  · simp [h'] at h0 h1; rw [h0] at h1; cases h1
  · simp [Array.getElem?_eq_none h'] at h1

theorem wpAnyS_firstT {i : Nat} {oi : Oper} {v : Value} (hi : ops[i]? = some oi) (hsel : ∀ (j : Nat) (o : Oper) cs b, ops[j]? = some o → o.op ≠ .select cs b)
    (hQ : ∀ c a w, Q (.panic c) (a.put oi.dst v) w → Q (.panic c) a w) :
    ∀ (fuel : Nat) (listed : Array Bool) (a : Act) (w : World),
      (∀ j oj, ops[j]? = some oj → j ≠ i → listed.getD j true = false → (∀ e ∈ oj.after, Region.binds md e = true → e.on ≠ i) → oi.apart ops oj = true) →
      i ∈ Region.ready md ops listed → YieldsIf P ops T oi v a → T w →
      wpAnyS P md ops Q tl S T fuel (listed.setIfInBounds i true) (a.put oi.dst v) w → wpAnyS P md ops Q tl S T (fuel + 1) listed a w := by
  intro fuel
  induction fuel with
  | zero =>
    intro listed a w _ hr hy hT H
    refine ⟨fun h => (by rw [h] at hr; cases hr), fun j hj => ?_⟩
    by_cases hji : j = i
    · subst hji; exact hy.wpOp hi hT ⟨⟨hT, fun _ h => h⟩, H⟩
    · have := ready_mono hj hji
      rw [H.1] at this
      cases this
  | succ fuel ih =>
    intro listed a w hfree hr hy hT H
    refine ⟨fun h => (by rw [h] at hr; cases hr), fun j hj => ?_⟩
    by_cases hji : j = i
    · subst hji; exact hy.wpOp hi hT ⟨⟨hT, fun _ h => h⟩, H⟩
    · have h1 := H.2 j (ready_mono hj hji)
      obtain ⟨hjun, oj, hoj, hall⟩ := mem_ready.1 hj
      have hnot := notOn (mem_ready.1 hr).1 hall
      have h2 := wpOp_putIf hoj (hfree j oj hoj hji hjun hnot) (fun cs b => hsel i oi cs b hi) (fun cs b => hsel j oj cs b hoj) hQ hy h1
      have hfree' : ∀ k ok, ops[k]? = some ok → k ≠ i → (listed.setIfInBounds j true).getD k true = false →
          (∀ e ∈ ok.after, Region.binds md e = true → e.on ≠ i) → oi.apart ops ok = true := fun k ok hk hki hun hno => by
        refine hfree k ok hk hki ?_ hno
        by_cases hjk : j = k
        · subst hjk; exact hjun
        · rw [getD_set_ne true hjk] at hun; exact hun
      refine wpOp_mono (fun a' w' h3 => ⟨h3.2.1, ih (listed.setIfInBounds j true) a' w' hfree' (ready_mono hr (Ne.symm hji)) h3.1 h3.2.1.1 ?_⟩) h2
      rw [Array.setIfInBounds_comm _ _ hji]
      exact h3.2.2

theorem wpAnyS_firstS {i : Nat} {oi : Oper} {v : Value} (hi : ops[i]? = some oi) (hsel : ∀ (j : Nat) (o : Oper) cs b, ops[j]? = some o → o.op ≠ .select cs b)
    (hQ : ∀ c a w, Q (.panic c) (a.put oi.dst v) w → Q (.panic c) a w) (hW : waitsB md ops tl i = true) :
    ∀ (fuel : Nat) (listed : Array Bool) (a : Act) (w : World),
      (∀ j oj, ops[j]? = some oj → j ≠ i → listed.getD j true = false → (∀ e ∈ oj.after, Region.binds md e = true → e.on ≠ i) → oi.apart ops oj = true) →
      i ∈ Region.ready md ops listed → YieldsIf P ops (fun w => T w ∧ S w) oi v a → T w ∧ S w →
      wpAnyS P md ops Q tl S T fuel (listed.setIfInBounds i true) (a.put oi.dst v) w → wpAnyS P md ops Q tl S T (fuel + 1) listed a w := by
  intro fuel
  induction fuel with
  | zero =>
    intro listed a w _ hr hy hT H
    refine ⟨fun h => (by rw [h] at hr; cases hr), fun j hj => ?_⟩
    by_cases hji : j = i
    · subst hji; exact hy.wpOp hi hT ⟨⟨hT.1, fun _ h => h⟩, H⟩
    · have := ready_mono hj hji
      rw [H.1] at this
      cases this
  | succ fuel ih =>
    intro listed a w hfree hr hy hT H
    refine ⟨fun h => (by rw [h] at hr; cases hr), fun j hj => ?_⟩
    by_cases hji : j = i
    · subst hji; exact hy.wpOp hi hT ⟨⟨hT.1, fun _ h => h⟩, H⟩
    · have h1 := H.2 j (ready_mono hj hji)
      obtain ⟨hjun, oj, hoj, hall⟩ := mem_ready.1 hj
      have hnot := notOn (mem_ready.1 hr).1 hall
      have htl : tl j = false := by
        cases htl : tl j with
        | false => rfl
        | true => obtain ⟨e, he, hb, ho⟩ := waitsB_spec hW hoj htl; exact absurd ho (hnot e he hb)
      have h2 := wpOp_putIf hoj (hfree j oj hoj hji hjun hnot) (fun cs b => hsel i oi cs b hi) (fun cs b => hsel j oj cs b hoj) hQ hy h1
      have hfree' : ∀ k ok, ops[k]? = some ok → k ≠ i → (listed.setIfInBounds j true).getD k true = false →
          (∀ e ∈ ok.after, Region.binds md e = true → e.on ≠ i) → oi.apart ops ok = true := fun k ok hk hki hun hno => by
        refine hfree k ok hk hki ?_ hno
        by_cases hjk : j = k
        · subst hjk; exact hjun
        · rw [getD_set_ne true hjk] at hun; exact hun
      refine wpOp_mono (fun a' w' h3 => ⟨h3.2.1, ih (listed.setIfInBounds j true) a' w' hfree' (ready_mono hr (Ne.symm hji)) h3.1 ⟨h3.2.1.1, h3.2.1.2 htl hT.2⟩ ?_⟩) h2
      rw [Array.setIfInBounds_comm _ _ hji]
      exact h3.2.2

theorem wpAnyS_takeT (i : Nat) (oi : Oper) {v : Value} {fuel : Nat} {listed : Array Bool} {a : Act} {w : World} (hi : ops[i]? = some oi)
    (hs : Region.noSelect ops = true) (hf : Region.free md ops listed i = true) (hr : (Region.ready md ops listed).contains i = true)
    (hQ : ∀ c a w, Q (.panic c) (a.put oi.dst v) w → Q (.panic c) a w) (hy : YieldsIf P ops T oi v a) (hT : T w)
    (h : wpAnyS P md ops Q tl S T fuel (listed.setIfInBounds i true) (a.put oi.dst v) w) : wpAnyS P md ops Q tl S T (fuel + 1) listed a w :=
  wpAnyS_firstT hi (Region.noSelect_spec hs) hQ fuel listed a w (Region.free_spec hi hf) (by simpa using hr) hy hT h

theorem wpAnyS_takeS (i : Nat) (oi : Oper) {v : Value} {fuel : Nat} {listed : Array Bool} {a : Act} {w : World} (hi : ops[i]? = some oi)
    (hs : Region.noSelect ops = true) (hf : Region.free md ops listed i = true) (hr : (Region.ready md ops listed).contains i = true) (hW : waitsB md ops tl i = true)
    (hQ : ∀ c a w, Q (.panic c) (a.put oi.dst v) w → Q (.panic c) a w) (hy : YieldsIf P ops (fun w => T w ∧ S w) oi v a) (hS : T w ∧ S w)
    (h : wpAnyS P md ops Q tl S T fuel (listed.setIfInBounds i true) (a.put oi.dst v) w) : wpAnyS P md ops Q tl S T (fuel + 1) listed a w :=
  wpAnyS_firstS hi (Region.noSelect_spec hs) hQ hW fuel listed a w (Region.free_spec hi hf) (by simpa using hr) hy hS h

def AllReadyS (P : Program) (md : Region.Mode) (ops : Array Oper) (Q : Exit → Act → World → Prop) (tl : Nat → Bool) (S T : World → Prop) (fuel : Nat) (listed : Array Bool) (a : Act) (w : World) (rs : List Nat) : Prop :=
  ∀ i ∈ rs, wpOp P ops Q i (fun a' w' => (T w' ∧ (tl i = false → S w → S w')) ∧ wpAnyS P md ops Q tl S T fuel (listed.setIfInBounds i true) a' w') a w

theorem AllReadyS.nil {fuel : Nat} {listed : Array Bool} {a : Act} {w : World} : AllReadyS P md ops Q tl S T fuel listed a w [] := fun _ h => by cases h

theorem AllReadyS.cons {fuel : Nat} {listed : Array Bool} {a : Act} {w : World} {i : Nat} {rs : List Nat} (o : Oper) (ho : ops[i]? = some o)
    (h : ∀ K' : Act → World → Prop, (∀ a w', T w' → (tl i = false → S w → S w') → wpAnyS P md ops Q tl S T fuel (listed.setIfInBounds i true) a w' → K' a w') → if Region.wanted o (yielded ops a.tmps) = true then Oper.wp P o a w K' Q else K' (a.put o.dst undef) w)
    (hs : AllReadyS P md ops Q tl S T fuel listed a w rs) : AllReadyS P md ops Q tl S T fuel listed a w (i :: rs) := fun j hj => by
  rcases List.mem_cons.1 hj with rfl | hj
  · exact wpOp_step ho (fun K' hK => h K' (fun a w' hT hS hW => hK a w' ⟨⟨hT, hS⟩, hW⟩))
  · exact hs j hj

theorem wpAnyS_ready (rs : List Nat) {fuel : Nat} {listed : Array Bool} {a : Act} {w : World} (hr : Region.ready md ops listed = rs) (hne : rs ≠ [])
    (h : AllReadyS P md ops Q tl S T fuel listed a w rs) : wpAnyS P md ops Q tl S T (fuel + 1) listed a w :=
  ⟨fun h0 => absurd (hr ▸ h0) hne, hr ▸ h⟩

theorem wpAnyS_done {listed : Array Bool} {a : Act} {w : World} (hr : Region.ready md ops listed = []) (h : Q .normal a w) :
    ∀ fuel, wpAnyS P md ops Q tl S T fuel listed a w
  | 0 => ⟨hr, h⟩
  | _ + 1 => ⟨fun _ => h, by rw [hr]; simp⟩

theorem wp_region_S (tl : Nat → Bool) (S T : World → Prop) {id : Nat} {a : Act} {w : World} (hm : P.follows .mixedOrders = true)
    (h : wpAnyS P .any ops Q tl S T ops.size (Array.replicate ops.size false) a w.drew) : (Code.region id ops true).wp P Q a w :=
  wp_region_any hm (wpAny_of_S _ _ _ _ h)

end
end Go.Gj

/-
  A region that draws its order, of which what is left has one order alone.
-/
namespace Go.Gj
set_option linter.unusedSimpArgs false
set_option linter.unusedVariables false
set_option linter.unnecessarySimpa false
open Go

theorem wpAny_rest {P : Program} {md : Region.Mode} {l : List Oper} {Q : Exit → Act → World → Prop} (k : Nat) {fuel : Nat} {listed : Array Bool} {a : Act} {w : World} (hf : fuel = (l.drop k).length) (hB : Region.seqB md l.toArray fuel k listed = true)
    (h : wpList P l.toArray Q (l.drop k) a w) : wpAny P md l.toArray Q fuel listed a w := by
  subst hf
  exact wpAny_of_seq (l.drop k) k listed a w (fun j => by simp [List.getElem?_drop]) hB h
end Go.Gj

/-
  A region that draws its order: loads first, though the tail may write; the tail waits for them by way of itself. What is left in one order.
-/
namespace Go.Gj
set_option linter.unusedSimpArgs false
set_option linter.unusedVariables false
set_option linter.unnecessarySimpa false
open Go

section
variable {P : Program} {ops : Array Oper} {Q : Exit → Act → World → Prop} {md : Region.Mode} {tl : Nat → Bool} {S T : World → Prop}

/-- Number j waits for number i, by way of others too. -/
def reach (md : Region.Mode) (ops : Array Oper) : Nat → Nat → Nat → Bool
  | 0, _, _ => false
  | n + 1, j, i => match ops[j]? with
    | some oj => oj.after.any (fun e => Region.binds md e && (e.on == i || reach md ops n e.on i))
    | none => false

/-- Every late operation waits for number i. -/
def lateOn (md : Region.Mode) (ops : Array Oper) (tl : Nat → Bool) (j : Nat) : Bool := match ops[j]? with
  | some oj => oj.after.any (fun e => Region.binds md e && (tl e.on && decide (e.on < j)))
  | none => false
def waitsT (md : Region.Mode) (ops : Array Oper) (tl : Nat → Bool) (i : Nat) : Bool := (List.range ops.size).all fun j => !tl j || (lateOn md ops tl j || reach md ops 6 j i)

theorem waitsT_spec {i : Nat} (h : waitsT md ops tl i = true) : ∀ (m j : Nat), j ≤ m → j < ops.size → tl j = true → ∃ n, reach md ops n j i = true := by
  intro m
  induction m with
  | zero =>
    intro j hjm hj ht
    have h1 := List.all_eq_true.1 h j (List.mem_range.2 hj)
    simp only [ht, Bool.not_true, Bool.false_or, Bool.or_eq_true] at h1
    rcases h1 with h1 | h1
    · unfold lateOn at h1
      rw [Array.getElem?_eq_getElem hj] at h1
      obtain ⟨e, he, hb⟩ := Array.any_eq_true'.1 h1
      simp only [Bool.and_eq_true, decide_eq_true_eq] at hb
      omega
    · exact ⟨6, h1⟩
  | succ m ih =>
    intro j hjm hj ht
    have h1 := List.all_eq_true.1 h j (List.mem_range.2 hj)
    simp only [ht, Bool.not_true, Bool.false_or, Bool.or_eq_true] at h1
    rcases h1 with h1 | h1
    · unfold lateOn at h1
      rw [Array.getElem?_eq_getElem hj] at h1
      obtain ⟨e, he, hb⟩ := Array.any_eq_true'.1 h1
      simp only [Bool.and_eq_true, decide_eq_true_eq] at hb
      obtain ⟨n, hn⟩ := ih e.on (by omega) (by omega) hb.2.1
      refine ⟨n + 1, ?_⟩
      unfold reach
      rw [Array.getElem?_eq_getElem hj]
      exact Array.any_eq_true'.2 ⟨e, he, by simp [hb.1, hn]⟩
    · exact ⟨6, h1⟩

/-- What has run had all that it waits for. -/
def Closed (md : Region.Mode) (ops : Array Oper) (listed : Array Bool) : Prop := ∀ j oj, ops[j]? = some oj → listed.getD j false = true → ∀ e ∈ oj.after, Region.binds md e = true → listed.getD e.on false = true
def closedB (md : Region.Mode) (ops : Array Oper) (listed : Array Bool) : Bool := (List.range ops.size).all fun j => !listed.getD j false || match ops[j]? with
    | some oj => oj.after.all (fun e => !Region.binds md e || listed.getD e.on false)
    | none => true
theorem closedB_spec {listed : Array Bool} (h : closedB md ops listed = true) : Closed md ops listed := fun j oj hj hl e he hb => by
  have h1 := List.all_eq_true.1 h j (List.mem_range.2 (Array.getElem?_eq_some_iff.1 hj).1)
  simp only [hl, Bool.not_true, Bool.false_or, hj] at h1
  have h2 := Array.all_eq_true'.1 h1 e he
  simpa [hb] using h2

theorem reach_listed {listed : Array Bool} (hc : Closed md ops listed) : ∀ (n j i : Nat), reach md ops n j i = true → (∀ oj, ops[j]? = some oj → ∀ e ∈ oj.after, Region.binds md e = true → listed.getD e.on false = true) → listed.getD i false = true
  | 0, _, _, h, _ => by cases h
  | n + 1, j, i, h, hall => by
    unfold reach at h
    cases hj : ops[j]? with
    | none => rw [hj] at h; cases h
    | some oj =>
      rw [hj] at h
      obtain ⟨e, he, hb⟩ := Array.any_eq_true'.1 h
      simp only [Bool.and_eq_true, Bool.or_eq_true, beq_iff_eq] at hb
      have hl := hall oj hj e he hb.1
      rcases hb.2 with rfl | hr
      · exact hl
      · exact reach_listed hc n e.on i hr fun ok hk e' he' hb' => hc _ ok hk hl e' he' hb'

theorem getD_set_mono {listed : Array Bool} {j k : Nat} (h : listed.getD k false = true) : (listed.setIfInBounds j true).getD k false = true := by
  by_cases hjk : j = k
  · subst hjk
    rcases Nat.lt_or_ge j listed.size with h' | h'
    · simp [h']
    · simp [Array.getElem?_eq_none h'] at h
  · rw [getD_set_ne false hjk]; exact h

theorem wpAnyS_firstU {i : Nat} {oi : Oper} {v : Value} (hi : ops[i]? = some oi) (hsel : ∀ (j : Nat) (o : Oper) cs b, ops[j]? = some o → o.op ≠ .select cs b)
    (hQ : ∀ c a w, Q (.panic c) (a.put oi.dst v) w → Q (.panic c) a w) (hW : waitsT md ops tl i = true) :
    ∀ (fuel : Nat) (listed : Array Bool) (a : Act) (w : World),
      Closed md ops listed →
      (∀ j oj, ops[j]? = some oj → j ≠ i → listed.getD j true = false → (∀ e ∈ oj.after, Region.binds md e = true → e.on ≠ i) → oi.apart ops oj = true) →
      i ∈ Region.ready md ops listed → YieldsIf P ops (fun w => T w ∧ S w) oi v a → T w ∧ S w →
      wpAnyS P md ops Q tl S T fuel (listed.setIfInBounds i true) (a.put oi.dst v) w → wpAnyS P md ops Q tl S T (fuel + 1) listed a w := by
  intro fuel
  induction fuel with
  | zero =>
    intro listed a w _ _ hr hy hT H
    refine ⟨fun h => (by rw [h] at hr; cases hr), fun j hj => ?_⟩
    by_cases hji : j = i
    · subst hji; exact hy.wpOp hi hT ⟨⟨hT.1, fun _ h => h⟩, H⟩
    · have := ready_mono hj hji
      rw [H.1] at this
      cases this
  | succ fuel ih =>
    intro listed a w hcl hfree hr hy hT H
    refine ⟨fun h => (by rw [h] at hr; cases hr), fun j hj => ?_⟩
    by_cases hji : j = i
    · subst hji; exact hy.wpOp hi hT ⟨⟨hT.1, fun _ h => h⟩, H⟩
    · have h1 := H.2 j (ready_mono hj hji)
      obtain ⟨hjun, oj, hoj, hall⟩ := mem_ready.1 hj
      have hiun := (mem_ready.1 hr).1
      have hnot := notOn hiun hall
      have htl : tl j = false := by
        cases htl : tl j with
        | false => rfl
        | true =>
          obtain ⟨n, h3⟩ := waitsT_spec hW j j (Nat.le_refl _) (Array.getElem?_eq_some_iff.1 hoj).1 htl
          have h4 := reach_listed hcl n j i h3 fun ok hk e he hb => by
            rw [hoj] at hk
            obtain rfl := Option.some.inj hk
            exact hall e he hb
          rcases Nat.lt_or_ge i listed.size with h' | h'
          · simp [h'] at hiun h4; rw [hiun] at h4; cases h4
          · simp [Array.getElem?_eq_none h'] at h4
      have h2 := wpOp_putIf hoj (hfree j oj hoj hji hjun hnot) (fun cs b => hsel i oi cs b hi) (fun cs b => hsel j oj cs b hoj) hQ hy h1
      have hfree' : ∀ k ok, ops[k]? = some ok → k ≠ i → (listed.setIfInBounds j true).getD k true = false →
          (∀ e ∈ ok.after, Region.binds md e = true → e.on ≠ i) → oi.apart ops ok = true := fun k ok hk hki hun hno => by
        refine hfree k ok hk hki ?_ hno
        by_cases hjk : j = k
        · subst hjk; exact hjun
        · rw [getD_set_ne true hjk] at hun; exact hun
      have hcl' : Closed md ops (listed.setIfInBounds j true) := fun k ok hk hl e he hb => by
        by_cases hjk : j = k
        · subst hjk
          rw [hoj] at hk
          obtain rfl := Option.some.inj hk
          exact getD_set_mono (hall e he hb)
        · rw [getD_set_ne false hjk] at hl
          exact getD_set_mono (hcl k ok hk hl e he hb)
      refine wpOp_mono (fun a' w' h3 => ⟨h3.2.1, ih (listed.setIfInBounds j true) a' w' hcl' hfree' (ready_mono hr (Ne.symm hji)) h3.1 ⟨h3.2.1.1, h3.2.1.2 htl hT.2⟩ ?_⟩) h2
      rw [Array.setIfInBounds_comm _ _ hji]
      exact h3.2.2

theorem wpAnyS_takeU (i : Nat) (oi : Oper) {v : Value} {fuel : Nat} {listed : Array Bool} {a : Act} {w : World} (hi : ops[i]? = some oi)
    (hs : Region.noSelect ops = true) (hf : Region.free md ops listed i = true) (hr : (Region.ready md ops listed).contains i = true) (hW : waitsT md ops tl i = true) (hl : closedB md ops listed = true)
    (hQ : ∀ c a w, Q (.panic c) (a.put oi.dst v) w → Q (.panic c) a w) (hy : YieldsIf P ops (fun w => T w ∧ S w) oi v a) (hS : T w ∧ S w)
    (h : wpAnyS P md ops Q tl S T fuel (listed.setIfInBounds i true) (a.put oi.dst v) w) : wpAnyS P md ops Q tl S T (fuel + 1) listed a w :=
  wpAnyS_firstU hi (Region.noSelect_spec hs) hQ hW fuel listed a w (closedB_spec hl) (Region.free_spec hi hf) (by simpa using hr) hy hS h

/-- Where all that is left is late, and of every world nothing more is asked. -/
theorem wpAnyS_of_any (hT : ∀ w, T w) : ∀ (fuel : Nat) (listed : Array Bool) (a : Act) (w : World), (∀ i, listed.getD i true = false → tl i = true) → wpAny P md ops Q fuel listed a w → wpAnyS P md ops Q tl S T fuel listed a w
  | 0, _, _, _, _, h => h
  | fuel + 1, listed, _, _, hl, h => ⟨h.1, fun i hi => by
      have hti : tl i = true := hl i (mem_ready.1 hi).1
      refine wpOp_mono (fun a' w' h' => ⟨⟨hT _, fun e => by rw [hti] at e; cases e⟩, wpAnyS_of_any hT fuel _ a' w' (fun k hk => ?_) h'⟩) (h.2 i hi)
      by_cases hik : i = k
      · subst hik; exact hti
      · rw [getD_set_ne true hik] at hk; exact hl k hk⟩

def restB (tl : Nat → Bool) (listed : Array Bool) : Bool := (List.range listed.size).all fun j => listed.getD j true || tl j
theorem restB_spec {listed : Array Bool} (h : restB tl listed = true) (j : Nat) (ht : listed.getD j true = false) : tl j = true := by
  rcases Nat.lt_or_ge j listed.size with hj | hj
  · have h1 := List.all_eq_true.1 h j (List.mem_range.2 hj)
    simpa [ht] using h1
  · simp [Array.getD_eq_getD_getElem?, Array.getElem?_eq_none hj] at ht

/-- The rest, in the one order that it has. -/
theorem wpAnyS_rest (k : Nat) {l : List Oper} {fuel : Nat} {listed : Array Bool} {a : Act} {w : World} (hT : ∀ w, T w) (hf : fuel = (l.drop k).length) (hB : Region.seqB md l.toArray fuel k listed = true) (hR : restB tl listed = true)
    (h : wpList P l.toArray Q (l.drop k) a w) : wpAnyS P md l.toArray Q tl S T fuel listed a w :=
  wpAnyS_of_any hT _ _ _ _ (restB_spec hR) (wpAny_rest k hf hB h)
end
end Go.Gj
