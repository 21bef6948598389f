/-
  gojq: updateArrayIndex, over what update does with the rest of the path.
-/
import Derived.Test.YtnlndpgbhmkanaaGreatDoorWSetO
import Derived.Laws.CopyOwn
import Derived.Laws.OwnMore
namespace Go.Gj
set_option linter.unusedSimpArgs false
set_option linter.unusedVariables false
set_option linter.unnecessarySimpa false
open Go Go.RowKit Go.Proofs

set_option maxRecDepth 100000 in
theorem makeArray_ok (L C : Nat) (Li : Int) (hLi : Li = L) (hL : L ≤ capMost) (hC : C ≤ capMost) (w : World) : Calls Tryz.prog 298 #[.map none, .int .i64 Li, .int .i64 C] w fun e w' => e = .returned (.slice (some ⟨w.heap.size, 0, none⟩) L (max L C)) ∧ w' = w.alloc (.cells (madeCells #[.nilIface] (max L C)) 20) := by
  subst hLi
  unfold capMost at hL hC
  obtain ⟨i0, hi, hz0, hz1, hz2⟩ := info_parts info20
  have hmk := run_make w 80 20 i0 .nilIface Tryz.underlying80 hi hz0 .i64 .i64 (L : Int) ((max L C : Nat) : Int) (by omega) (by omega) (by rw [hz2]; omega) (by omega)
  rw [hz1] at hmk
  simp only [Value.cells, Int.toNat_natCast, Nat.mul_one] at hmk
  have hmax : ∀ ats ty w', (Builtin.max_ ats ty #[.int .i64 L, .int .i64 C]).run Tryz.prog w' = .ok (.int .i64 ((max L C : Nat) : Int)) w' := fun ats ty w' => by
    by_cases h : L ≤ C
    · rw [Nat.max_eq_right h]
      by_cases h' : L = C
      · subst h'; simp [Builtin.max_, Builtin.max2]
      · have e : (C : Int) > L := by omega
        simp [Builtin.max_, Builtin.max2, e]
        try omega
    · rw [Nat.max_eq_left (by omega)]
      have e : ¬ (C : Int) > L := by omega
      simp [Builtin.max_, Builtin.max2, e]
      try omega
  go_enter Tryz.func298, Tryz.ntmps298
  go_wp2_with fail
  exact bodyPost_ret (v := .slice (some ⟨w.heap.size, 0, none⟩) L (max L C)) (by simp [results, Tryz.results298, go_sem]) rfl ⟨rfl, rfl⟩

theorem ACells.list {w : World} {S : Nat → Prop} {b : Nat} (l : List J) (o : Nat) (h : ACells w S b l o) : ∃ xs : List Value, xs.length = l.length ∧ ∀ j (hj : j < l.length), ∃ g, xs[j]? = some g ∧ w.cell? ⟨b, o + j, none⟩ = some g ∧ ARep w S l[j] g := by
  induction l generalizing o with
  | nil => exact ⟨[], rfl, fun j hj => by simp at hj⟩
  | cons x l ih =>
    obtain ⟨⟨c, hc, hr⟩, ht⟩ := h
    obtain ⟨xs, hl, hx⟩ := ih (o + 1) ht
    refine ⟨c :: xs, by simp [hl], fun j hj => ?_⟩
    cases j with
    | zero => exact ⟨c, by simp, by simpa using hc, by simpa using hr⟩
    | succ j =>
      obtain ⟨g, h1, h2, h3⟩ := hx j (by simpa using hj)
      exact ⟨g, by simpa using h1, by rw [show o + (j + 1) = o + 1 + j by omega]; exact h2, by simpa using h3⟩

theorem addr_plus (b o j : Nat) : (⟨b, o, none⟩ : Addr).add j = ⟨b, o + j, none⟩ := by unfold Addr.add; split <;> simp_all

/-- A list is copied into a new one. -/
theorem copy_list (l : List J) (a : Option Addr) (c : Nat) (w : World) (hp : PSl w l (.slice a l.length c)) (w1 : World) (hb : Below w.heap.size w w1) (L C : Nat) (h1 : l.length ≤ L) (h2 : L ≤ C) :
    ∃ w3 n cs, (∀ ty, (Builtin.copy_ #[80, 80] ty #[.slice (some ⟨w1.heap.size, 0, none⟩) L C, .slice a l.length c]).run Tryz.prog (w1.alloc (.cells (madeCells #[.nilIface] C) 20)) = .ok (goInt n) w3) ∧
      w3.heap[w1.heap.size]? = some (.cells cs 20) ∧ cs.size = C ∧ (∀ j (hj : j < l.length), ∃ g, cs[j]? = some g ∧ ARep w (allB w) l[j] g) ∧ (∀ j, l.length ≤ j → j < C → cs[j]? = some .nilIface) ∧ Below w1.heap.size w1 w3 ∧ w1.heap.size < w3.heap.size := by
  have hi : (Tryz.prog.info? 20).map (·.size) = some 1 := by kernel_rfl
  have hB : (w1.alloc (.cells (madeCells #[.nilIface] C) 20)).heap[w1.heap.size]? = some (.cells (madeCells #[.nilIface] C) 20 (0, 0)) := heap_alloc_new _ _
  have hbe : Below w1.heap.size w1 (w1.alloc (.cells (madeCells #[.nilIface] C) 20)) := below1 _ _
  obtain ⟨a', c', he, hc1, hc2, hor⟩ := hp
  simp only [Value.slice.injEq] at he
  obtain ⟨rfl, _, rfl⟩ := he
  by_cases h0 : l.length = 0
  · refine ⟨_, 0, _, fun ty => run_copy_none _ 80 80 ty 20 _ _ _ _ _ _ Tryz.underlying80 hi (by rw [h0]; exact Nat.zero_min _), hB, size_madeCells _ _, fun j hj => by omega, fun j _ hj => ?_, hbe, by simp⟩
    rw [← Array.getElem?_toList, toList_madeCells_one]
    simp [hj]
  · obtain ⟨b, o, rfl, hbl, hcs⟩ := hor.resolve_left (fun h => h0 (by rw [h]; rfl))
    obtain ⟨xs, hxl, hx⟩ := ACells.list l o hcs
    have hrun := fun ty => run_copy_row (P := Tryz.prog) (w1.alloc (.cells (madeCells #[.nilIface] C) 20)) 80 80 ty 20 w1.heap.size 0 L C ⟨b, o, none⟩ l.length c (madeCells #[.nilIface] C) 20 xs Tryz.underlying80 hi hB (by rw [hxl]; exact (Nat.min_eq_left h1).symm)
      (fun j v hj => by
        have hjl : j < l.length := by have := (List.getElem?_eq_some_iff.1 hj).1; omega
        obtain ⟨g, e1, e2, _⟩ := hx j hjl
        rw [addr_plus, World.cell?_of_block (a := ⟨b, o + j, none⟩) ((hbe.block b (Nat.lt_of_lt_of_le hbl hb.size)).trans (hb.block b hbl)), e2, ← e1, hj])
      (by rw [size_madeCells]; omega)
      (fun v hv => by
        obtain ⟨j, hj, e⟩ := List.getElem_of_mem hv
        obtain ⟨g, e1, _, e3⟩ := hx j (by omega)
        rw [List.getElem?_eq_getElem hj, e, Option.some.injEq] at e1
        rw [e1]; exact e3.one)
    refine ⟨_, _, _, hrun, setRow_heap _ _ _ _ _ _ hB, ?_, fun j hj => ?_, fun j hj hjC => ?_, below_setRow hbe (Nat.le_refl _) _, ?_⟩
    · simp [toList_madeCells_one, hxl]; omega
    · obtain ⟨g, e1, _, e3⟩ := hx j hj
      refine ⟨g, ?_, e3⟩
      simp only [List.take_zero, List.nil_append, List.getElem?_toArray]
      rw [List.getElem?_append_left (by omega)]
      exact e1
    · simp only [List.take_zero, List.nil_append, List.getElem?_toArray, toList_madeCells_one]
      rw [List.getElem?_append_right (by omega)]
      rw [List.getElem?_drop, List.getElem?_replicate, if_pos (by omega)]
    · simp [World.setRow]

theorem list_put {w w1 w3 : World} {l : List J} {i C : Nat} {r : J} {g : Value} {cs : Array Value} (hb : Below w.heap.size w w1) (hr : ARep w1 (allB w1) r g) (hl : max l.length (i + 1) ≤ C) (hC : C ≤ capMost)
    (h1 : w3.heap[w1.heap.size]? = some (.cells cs 20)) (h2 : cs.size = C) (h3 : ∀ j (hj : j < l.length), ∃ g, cs[j]? = some g ∧ ARep w (allB w) l[j] g) (h4 : ∀ j, l.length ≤ j → j < C → cs[j]? = some .nilIface) (h5 : Below w1.heap.size w1 w3) (h6 : w1.heap.size < w3.heap.size) :
    Below w.heap.size w (w3.setCell ⟨w1.heap.size, i, none⟩ g) ∧ ARep (w3.setCell ⟨w1.heap.size, i, none⟩ g) (allB (w3.setCell ⟨w1.heap.size, i, none⟩ g)) (.arr (setAt l i r)) (.iface 80 (.slice (some ⟨w1.heap.size, 0, none⟩) (max l.length (i + 1)) C)) := by
  have hsz : (w3.setCell ⟨w1.heap.size, i, none⟩ g).heap.size = w3.heap.size := by simp [World.setCell]
  have hb1 : Below w1.heap.size w1 (w3.setCell ⟨w1.heap.size, i, none⟩ g) := h5.trans ⟨rfl, rfl, rfl, by rw [hsz]; exact Nat.le_refl _, fun k hk => Below.heap_setCell _ _ _ _ (by show k ≠ w1.heap.size; have := h5.size; omega)⟩
  have hb0 : Below w.heap.size w (w3.setCell ⟨w1.heap.size, i, none⟩ g) := hb.trans (hb1.mono hb.size)
  have hcs : (w3.setCell ⟨w1.heap.size, i, none⟩ g).heap[w1.heap.size]? = some (.cells (cs.setIfInBounds i g) 20) := by simp [World.setCell, Array.getElem?_modify, h1]
  refine ⟨hb0, w1.heap.size, 0, C, by rw [setAt_length], ⟨by rw [setAt_length]; exact hl, hC⟩, by show w1.heap.size < _; rw [hsz]; exact h6, ACells.of _ 0 fun j hj => ?_⟩
  rw [setAt_length] at hj
  have hjC : j < C := by omega
  simp only [World.cell?, hcs, Nat.zero_add, Option.isSome_none, Bool.false_eq_true, if_false]
  by_cases e : j = i
  · subst e
    have : (setAt l j r)[j]'(by rw [setAt_length]; omega) = r := by
      have := setAt_get l j r
      rw [List.getD_eq_getElem?_getD, List.getElem?_eq_getElem (by rw [setAt_length]; omega)] at this
      exact this
    rw [this]
    exact ⟨g, by rw [Array.getElem?_setIfInBounds_self_of_lt (by omega)], (hr.below hb1 fun _ h => h).mono fun b h => Nat.lt_of_lt_of_le h hb1.size⟩
  · rw [Array.getElem?_setIfInBounds_ne (by omega)]
    by_cases hjl : j < l.length
    · obtain ⟨g', hg, hgr⟩ := h3 j hjl
      refine ⟨g', hg, ?_⟩
      have : (setAt l i r)[j]'(by rw [setAt_length]; omega) = l[j] := by
        unfold setAt
        split
        · rw [List.getElem_set_ne (by omega)]
        · simp only [List.append_assoc]; rw [List.getElem_append_left hjl]
      rw [this]
      exact (hgr.below hb0 fun _ h => h).mono fun b h => Nat.lt_of_lt_of_le h hb0.size
    · refine ⟨.nilIface, h4 j (by omega) hjC, ?_⟩
      have : (setAt l i r)[j]'(by rw [setAt_length]; omega) = .null := by
        unfold setAt
        rw [List.getElem_of_eq (if_neg (by omega))]
        simp only [List.append_assoc]
        rw [List.getElem_append_right (by omega), List.getElem_append_left (by simp; omega)]
        simp
      rw [this]
      rfl

set_option maxHeartbeats 1000000 in
set_option maxRecDepth 100000 in
theorem updateIndex_lt (p : List J) (ih : UpOk p) (l : List J) (i : Nat) (hi : i ≤ 100) (hlt : i < l.length) (hv : (J.arr l).ok) (x : J) (w : World) (va gx vp : Value) (hsrc : PSl w l va) (hx : ARep w (allB w) x gx) (hp : PSl w p vp) :
    Calls Tryz.prog 236 #[va, .int .i64 i, vp, gx, .map none] w fun e w' => UpIs w ((setJ (l.getD i .null) p x).map fun u => .arr (setAt l i u)) w' e := by
  have hsrc0 := hsrc
  obtain ⟨a, c, rfl, hc1, hc2, hor⟩ := hsrc
  obtain ⟨b, o, rfl, hbl, hcs⟩ := hor.resolve_left (by rintro rfl; simp at hlt)
  obtain ⟨g0, hg0, hr0⟩ := ACells.at l o i hlt hcs
  have hgd : l.getD i .null = l[i] := by rw [List.getD_eq_getElem?_getD, List.getElem?_eq_getElem hlt]; rfl
  have hoks := (oks_iff l).1 hv.2
  rw [hgd]
  have HC := Lib.hid (ih l[i] x w g0 gx vp (hoks _ (List.getElem_mem _)) hr0 hx hp)
  have HCL := Lib.hid (clamp_lt i l.length (by omega) (by omega) w)
  have HS := Lib.hid hsrc0
  obtain ⟨pa, pc, rfl, _⟩ := hp
  have hd0 : decide ((i : Int) < 0) = false := decide_eq_false (by omega)
  have hd1 : decide ((i : Int) < l.length) = true := decide_eq_true (by omega)
  have hd2 : decide ((i : Int) ≥ l.length) = false := decide_eq_false (by omega)
  have hd3 : decide ((l.length : Int) ≤ i) = false := decide_eq_false (by omega)
  have hi0 : (0 : Int) ≤ i := by omega
  have hil : (i : Int) < l.length := by omega
  have hmx : max l.length c = c := Nat.max_eq_right hc1
  have hmi : max l.length (i + 1) = l.length := by omega
  have hll : l.length ≤ capMost := by omega
  cases hset : setJ l[i] p x with
  | none =>
    have HC2 : Hid (Calls Tryz.prog 186 #[g0, .slice pa p.length pc, gx, .map none] w fun e w' => ∃ t v, e = .returned (.tuple #[.nilIface, .iface t v]) ∧ Below w.heap.size w w') := by
      have := HC.out; rw [hset] at this; exact Lib.hid this
    clear hset HC hsrc0 hx hor hcs hr0 ih hv hoks
    go_enter Tryz.func236, Tryz.ntmps236
    go_wp2_with (first | (go_at_call 154; refine HCL.out.mono ?_; rintro e w ⟨rfl, rfl⟩) | (go_at_call 186; refine HC2.out.mono ?_; rintro e w1 ⟨t, v, rfl, hb⟩))
    exact bodyPost_ret (v := .tuple #[.nilIface, .iface t v]) (by simp [results, Tryz.results236, go_sem]) rfl ⟨t, v, rfl, hb⟩
  | some r =>
    have HC2 : Hid (Calls Tryz.prog 186 #[g0, .slice pa p.length pc, gx, .map none] w fun e w' => ∃ g, e = .returned (.tuple #[g, .nilIface]) ∧ Below w.heap.size w w' ∧ ARep w' (allB w') r g) := by
      have := HC.out; rw [hset] at this; exact Lib.hid this
    clear hset HC hx hor hcs hr0 ih hv hoks hsrc0
    go_enter Tryz.func236, Tryz.ntmps236
    go_upto_region 21 with (first | (go_at_call 154; refine HCL.out.mono ?_; rintro e w ⟨rfl, rfl⟩) | (go_at_call 186; refine HC2.out.mono ?_; rintro e w1 ⟨g, rfl, hb, hr⟩))
    rcases hr.shape with rfl | ⟨gt, gv, rfl⟩
    all_goals
      obtain ⟨w3, n, cs, hrun, k1, k2, k3, k4, k5, k6⟩ := copy_list l _ c w HS.out w1 hb l.length c (Nat.le_refl _) hc1
      have hcell : ∃ z, w3.cell? ⟨w1.heap.size, i, none⟩ = some z := ⟨cs[i]'(by omega), by simp [World.cell?, k1]⟩
      obtain ⟨z, hz⟩ := hcell
      have hfz : w3.frozen? ⟨w1.heap.size, i, none⟩ = false := by simp [World.frozen?, k1]
      have HQ := Lib.hid (list_put (i := i) hb hr (by rw [hmi]; exact hc1) hc2 k1 k2 k3 k4 k5 k6)
      have HMA := Lib.hid (makeArray_ok l.length c l.length rfl hll hc2 w1)
      rw [hmx, hmi] at *
      clear k1 k2 k3 k4 k5 k6 hb hr
      go_wp2_with (first | (go_at_call 296; refine (allocated_ok _ _ _).mono ?_; rintro e w1 ⟨rfl, rfl⟩) | (go_at_call 298; refine HMA.out.mono ?_; rintro e w2 ⟨rfl, rfl⟩))
      exact bodyPost_ret (v := .tuple #[.iface 80 (.slice (some ⟨w1.heap.size, 0, none⟩) l.length c), .nilIface]) (by simp [results, Tryz.results236, go_sem]) rfl ⟨_, rfl, HQ.out⟩

set_option maxHeartbeats 1000000 in
set_option maxRecDepth 100000 in
theorem updateIndex_ge (p : List J) (ih : UpOk p) (l : List J) (i : Nat) (hi : i ≤ 100) (hge : l.length ≤ i) (x : J) (w : World) (va gx vp : Value) (hsrc : PSl w l va) (hx : ARep w (allB w) x gx) (hp : PSl w p vp) :
    Calls Tryz.prog 236 #[va, .int .i64 i, vp, gx, .map none] w fun e w' => UpIs w ((setJ (l.getD i .null) p x).map fun u => .arr (setAt l i u)) w' e := by
  have hsrc0 := hsrc
  obtain ⟨a, c, rfl, hc1, hc2, hor⟩ := hsrc
  have hgd : l.getD i .null = .null := by rw [List.getD_eq_getElem?_getD, List.getElem?_eq_none hge]; rfl
  have hne := ne_empty hx
  have heg := eg_empty hx
  rw [hgd]
  have HC := Lib.hid (ih .null x w .nilIface gx vp trivial rfl hx hp)
  have HCL := Lib.hid (clamp_ge i l.length (by omega) (by omega) w)
  have HS := Lib.hid hsrc0
  obtain ⟨pa, pc, rfl, _⟩ := hp
  have hd0 : decide ((l.length : Int) < 0) = false := decide_eq_false (by omega)
  have hd1 : decide ((i : Int) < l.length) = false := decide_eq_false (by omega)
  have hd2 : decide ((i : Int) ≥ l.length) = true := decide_eq_true (by omega)
  have hd3 : decide ((l.length : Int) ≤ i) = true := decide_eq_true (by omega)
  have hd4 : decide ((i : Int) ≥ 536870912) = false := decide_eq_false (by omega)
  have hd5 : decide ((536870912 : Int) ≤ i) = false := decide_eq_false (by omega)
  have hi0 : (0 : Int) ≤ i := by omega
  have hii : (i : Int) < (i : Int) + 1 := by omega
  have hwr : IntKind.i64.wrap ((i : Int) + 1) = i + 1 := by rw [IntKind.wrap_i64]; omega
  have hmi : max l.length (i + 1) = i + 1 := by omega
  have hll : i + 1 ≤ capMost := by unfold capMost; omega
  cases hset : setJ .null p x with
  | none =>
    have HC2 : Hid (Calls Tryz.prog 186 #[.nilIface, .slice pa p.length pc, gx, .map none] w fun e w' => ∃ t v, e = .returned (.tuple #[.nilIface, .iface t v]) ∧ Below w.heap.size w w') := by
      have := HC.out; rw [hset] at this; exact Lib.hid this
    clear hset HC hsrc0 hx hor ih
    go_enter Tryz.func236, Tryz.ntmps236
    go_wp2_with (first | (go_at_call 154; refine HCL.out.mono ?_; rintro e w ⟨rfl, rfl⟩) | (go_at_call 186; refine HC2.out.mono ?_; rintro e w1 ⟨t, v, rfl, hb⟩))
    exact bodyPost_ret (v := .tuple #[.nilIface, .iface t v]) (by simp [results, Tryz.results236, go_sem]) rfl ⟨t, v, rfl, hb⟩
  | some r =>
    have HC2 : Hid (Calls Tryz.prog 186 #[.nilIface, .slice pa p.length pc, gx, .map none] w fun e w' => ∃ g, e = .returned (.tuple #[g, .nilIface]) ∧ Below w.heap.size w w' ∧ ARep w' (allB w') r g) := by
      have := HC.out; rw [hset] at this; exact Lib.hid this
    clear hset HC hx hor ih hsrc0
    go_enter Tryz.func236, Tryz.ntmps236
    go_upto_region 21 with (first | (go_at_call 154; refine HCL.out.mono ?_; rintro e w ⟨rfl, rfl⟩) | (go_at_call 186; refine HC2.out.mono ?_; rintro e w1 ⟨g, rfl, hb, hr⟩))
    rcases hr.shape with rfl | ⟨gt, gv, rfl⟩
    all_goals
      obtain ⟨C, hC⟩ : ∃ C, C = max (i + 1) c := ⟨_, rfl⟩
      have hC1 : i + 1 ≤ C := by omega
      have hC2 : C ≤ capMost := by omega
      obtain ⟨w3, n, cs, hrun, k1, k2, k3, k4, k5, k6⟩ := copy_list l a c w HS.out w1 hb (i + 1) C (by omega) hC1
      have hcell : ∃ z, w3.cell? ⟨w1.heap.size, i, none⟩ = some z := ⟨cs[i]'(by omega), by simp [World.cell?, k1]⟩
      obtain ⟨z, hz⟩ := hcell
      have hfz : w3.frozen? ⟨w1.heap.size, i, none⟩ = false := by simp [World.frozen?, k1]
      have HQ := Lib.hid (list_put (i := i) hb hr (by rw [hmi]; exact hC1) hC2 k1 k2 k3 k4 k5 k6)
      have HMA := Lib.hid (makeArray_ok (i + 1) c ((i : Int) + 1) (by omega) hll hc2 w1)
      rw [← hC] at HMA
      clear hC
      rw [hmi] at HQ
      clear k1 k2 k3 k4 k5 k6 hb hr
      go_wp2_with (first | (go_at_call 296; refine (allocated_ok _ _ _).mono ?_; rintro e w1 ⟨rfl, rfl⟩) | (go_at_call 298; refine HMA.out.mono ?_; rintro e w2 ⟨rfl, rfl⟩))
      exact bodyPost_ret (v := .tuple #[.iface 80 (.slice (some ⟨w1.heap.size, 0, none⟩) (i + 1) C), .nilIface]) (by simp [results, Tryz.results236, go_sem]) rfl ⟨_, rfl, HQ.out⟩
end Go.Gj
