/-
  spec.By. (Printed by wip/gen_by.py.)
-/
import Derived.Test.YtnlndpgbhmkanaaGreatDoorWBy1
import Derived.Test.YtnlndpgbhmkanaaGreatDoorRegT
namespace Go.Gj
set_option linter.unusedSimpArgs false
set_option linter.unusedVariables false
set_option linter.unnecessarySimpa false
open Go Go.RowKit Go.Proofs

/-- What spec.By answers: a value, or that the manual is silent. -/
def ByRes (w : World) (S : Nat → Prop) (x : J) (e : Ending) (w' : World) : Prop :=
  ∃ c0 c1 c2 c3 c4 c5 how z, e = .returned (.tuple #[.agg #[c0, c1, c2, c3, c4, c5], .int .i64 how]) ∧ Below w.heap.size w w' ∧ JRep w' (With S w.heap.size w') z (.agg #[c0, c1, c2, c3, c4, c5]) ∧ z.ok ∧ (how = 2 ∨ (how = 0 ∧ z = x))

theorem by_same {w W1 w3 w4 : World} {S : Nat → Prop} {B : Nat} (hS : ∀ b, S b → b < w.heap.size) (hB : w.heap.size ≤ B) (hB1 : B < W1.heap.size) (hw : W1.heap.size ≤ w3.heap.size) (h34 : Below w3.heap.size w3 w4) (c0 c1 c2 c3 c4 c5 : Value) :
    Same (With S W1.heap.size w3) w3 (set6 w4 B c0 c1 c2 c3 c4 c5) ∧ ∀ b, With S W1.heap.size w3 b → With S w.heap.size (set6 w4 B c0 c1 c2 c3 c4 c5) b := by
  refine ⟨fun b hb => ?_, fun b hb => ?_⟩
  · rw [set6_other]
    · exact h34.block b (With.lt (fun b hb => Nat.lt_of_lt_of_le (hS b hb) (by omega)) hw b hb)
    · rcases hb with hb | hb
      · have := hS b hb; omega
      · omega
  · rcases hb with hb | hb
    · exact .inl hb
    · refine .inr ⟨by omega, ?_⟩
      rw [set6_size]
      exact Nat.lt_of_lt_of_le hb.2 h34.size

theorem ordL_oks {l ks : List J} (h : ∀ x ∈ l, x.ok) : ∀ x ∈ ordL l ks, x.ok := ordL_ok h


set_option maxHeartbeats 4000000 in
set_option maxRecDepth 100000 in
theorem By_sort (l ks : List J) (H : Pair l ks) (w : World) (S : Nat → Prop) (hS : ∀ b, S b → b < w.heap.size) (a1 a2 : Option Addr) (c1 c2 : Nat) (ha : JSl w S l (.slice a1 l.length c1)) (hb : JSl w S ks (.slice a2 ks.length c2)) :
    Calls Tryz.prog 25 #[.string ⟨#[115, 111, 114, 116, 95, 98, 121]⟩, .agg #[.int .i64 5, .int .i64 0, .string ⟨#[]⟩, .slice a1 l.length c1, .slice none 0 0, .slice none 0 0], .agg #[.int .i64 5, .int .i64 0, .string ⟨#[]⟩, .slice a2 ks.length c2, .slice none 0 0, .slice none 0 0]] w (ByRes w S (byJ l ks 0)) := by
  have hne : ((l.length : Int) != ks.length) = false := by rw [H.len]; simp
  have HP := Lib.hid H
  have HS := Lib.hid hS
  have HA := Lib.hid (And.intro ha hb)
  have hB0 := below3 w (.cells #[.int .i64 5, .int .i64 0, .string ⟨#[]⟩, .slice a1 l.length c1, .slice none 0 0, .slice none 0 0] 26) (.cells #[.int .i64 5, .int .i64 0, .string ⟨#[]⟩, .slice a2 ks.length c2, .slice none 0 0, .slice none 0 0] 26) (.cells #[.int .i64 0, .int .i64 0, .string ⟨#[]⟩, .slice none 0 0, .slice none 0 0, .slice none 0 0] 26)
  have e1 : (w.alloc (.cells #[.int .i64 5, .int .i64 0, .string ⟨#[]⟩, .slice a1 l.length c1, .slice none 0 0, .slice none 0 0] 26)).heap.size = w.heap.size + 1 := size_alloc _ _
  have e2 : ((w.alloc (.cells #[.int .i64 5, .int .i64 0, .string ⟨#[]⟩, .slice a1 l.length c1, .slice none 0 0, .slice none 0 0] 26)).alloc (.cells #[.int .i64 5, .int .i64 0, .string ⟨#[]⟩, .slice a2 ks.length c2, .slice none 0 0, .slice none 0 0] 26)).heap.size = w.heap.size + 2 := by rw [size_alloc, e1]
  have e3 : (((w.alloc (.cells #[.int .i64 5, .int .i64 0, .string ⟨#[]⟩, .slice a1 l.length c1, .slice none 0 0, .slice none 0 0] 26)).alloc (.cells #[.int .i64 5, .int .i64 0, .string ⟨#[]⟩, .slice a2 ks.length c2, .slice none 0 0, .slice none 0 0] 26)).alloc (.cells #[.int .i64 0, .int .i64 0, .string ⟨#[]⟩, .slice none 0 0, .slice none 0 0, .slice none 0 0] 26)).heap.size = w.heap.size + 3 := by rw [size_alloc, e2]
  have q1 := Box.new w 5 0 ⟨#[]⟩ (.slice a1 l.length c1) (.slice none 0 0) (.slice none 0 0)
  have q2 := Box.new (w.alloc (.cells #[.int .i64 5, .int .i64 0, .string ⟨#[]⟩, .slice a1 l.length c1, .slice none 0 0, .slice none 0 0] 26)) 5 0 ⟨#[]⟩ (.slice a2 ks.length c2) (.slice none 0 0) (.slice none 0 0)
  have q3 := Box.new ((w.alloc (.cells #[.int .i64 5, .int .i64 0, .string ⟨#[]⟩, .slice a1 l.length c1, .slice none 0 0, .slice none 0 0] 26)).alloc (.cells #[.int .i64 5, .int .i64 0, .string ⟨#[]⟩, .slice a2 ks.length c2, .slice none 0 0, .slice none 0 0] 26)) 0 0 ⟨#[]⟩ (.slice none 0 0) (.slice none 0 0) (.slice none 0 0)
  rw [e1] at q2
  rw [e2] at q3
  replace q1 := ((Below.heap_alloc ((w.alloc (.cells #[.int .i64 5, .int .i64 0, .string ⟨#[]⟩, .slice a1 l.length c1, .slice none 0 0, .slice none 0 0] 26)).alloc (.cells #[.int .i64 5, .int .i64 0, .string ⟨#[]⟩, .slice a2 ks.length c2, .slice none 0 0, .slice none 0 0] 26)) (.cells #[.int .i64 0, .int .i64 0, .string ⟨#[]⟩, .slice none 0 0, .slice none 0 0, .slice none 0 0] 26) w.heap.size (by rw [e2]; omega)).trans ((Below.heap_alloc (w.alloc (.cells #[.int .i64 5, .int .i64 0, .string ⟨#[]⟩, .slice a1 l.length c1, .slice none 0 0, .slice none 0 0] 26)) (.cells #[.int .i64 5, .int .i64 0, .string ⟨#[]⟩, .slice a2 ks.length c2, .slice none 0 0, .slice none 0 0] 26) w.heap.size (by rw [e1]; omega)))).trans q1
  replace q2 := (Below.heap_alloc ((w.alloc (.cells #[.int .i64 5, .int .i64 0, .string ⟨#[]⟩, .slice a1 l.length c1, .slice none 0 0, .slice none 0 0] 26)).alloc (.cells #[.int .i64 5, .int .i64 0, .string ⟨#[]⟩, .slice a2 ks.length c2, .slice none 0 0, .slice none 0 0] 26)) (.cells #[.int .i64 0, .int .i64 0, .string ⟨#[]⟩, .slice none 0 0, .slice none 0 0, .slice none 0 0] 26) (w.heap.size + 1) (by rw [e2]; omega)).trans q2
  have HQ := Lib.hid (And.intro hB0 (And.intro e3 (And.intro q1 (And.intro q2 q3))))
  clear ha hb hB0 e1 e2 e3 q1 q2 q3 H hS
  go_enter Tryz.func25, Tryz.ntmps25
  go_upto_region 3 with fail
  generalize (((w.alloc (.cells #[.int .i64 5, .int .i64 0, .string ⟨#[]⟩, .slice a1 l.length c1, .slice none 0 0, .slice none 0 0] 26)).alloc (.cells #[.int .i64 5, .int .i64 0, .string ⟨#[]⟩, .slice a2 ks.length c2, .slice none 0 0, .slice none 0 0] 26)).alloc (.cells #[.int .i64 0, .int .i64 0, .string ⟨#[]⟩, .slice none 0 0, .slice none 0 0, .slice none 0 0] 26)) = W1 at *
  have hsz := HQ.out.2.1
  have KEY : Hid (∀ wx, Below W1.heap.size W1 wx → Below w.heap.size w wx ∧ Box wx w.heap.size 5 0 ⟨#[]⟩ (.slice a1 l.length c1) (.slice none 0 0) (.slice none 0 0) ∧ Box wx (w.heap.size + 1) 5 0 ⟨#[]⟩ (.slice a2 ks.length c2) (.slice none 0 0) (.slice none 0 0) ∧ Box wx (w.heap.size + 1 + 1) 0 0 ⟨#[]⟩ (.slice none 0 0) (.slice none 0 0) (.slice none 0 0)) := Lib.hid fun wx hx =>
    ⟨HQ.out.1.trans (hx.mono (by omega)), (hx.block _ (by omega)).trans HQ.out.2.2.1, (hx.block _ (by omega)).trans HQ.out.2.2.2.1, (hx.block _ (by omega)).trans HQ.out.2.2.2.2⟩
  have HJ : Hid (∀ wx, Below W1.heap.size W1 wx → (∀ b, S b → b < wx.heap.size) ∧ JSl wx S l (.slice a1 l.length c1) ∧ JSl wx S ks (.slice a2 ks.length c2)) := Lib.hid fun wx hx =>
    ⟨lt_below (KEY.out wx hx).1 HS.out, HA.out.1.keep (.of_below (KEY.out wx hx).1 HS.out) (fun _ h => h), HA.out.2.keep (.of_below (KEY.out wx hx).1 HS.out) (fun _ h => h)⟩
  have HR0 := Lib.hid (Below.refl W1.heap.size W1).drew
  have HC : Hid (∀ wx, Below W1.heap.size W1 wx → wx.cell? ⟨w.heap.size, 3, none⟩ = some (.slice a1 l.length c1) ∧ wx.cell? ⟨w.heap.size + 1, 3, none⟩ = some (.slice a2 ks.length c2)) := Lib.hid fun wx hx => by
    obtain ⟨_, k1, k2, _⟩ := KEY.out wx hx
    exact ⟨k1.c.2.2.2.1, k2.c.2.2.2.1⟩
  refine wp_region_S (fun i => decide (10 ≤ i)) (fun w4 => w4.cell? ⟨w.heap.size, 3, none⟩ = some (.slice a1 l.length c1) ∧ w4.cell? ⟨w.heap.size + 1, 3, none⟩ = some (.slice a2 ks.length c2)) (fun _ => True) (by kernel_rfl) ?_
  refine wpAnyS_takeU 0 ⟨some 32, .fieldAddr 26 (.tmp 4) 3, _, _, _, none⟩ (v := ?_) rfl (by kernel_rfl) (by kernel_rfl) (by kernel_rfl) (by kernel_rfl) (by kernel_rfl) (fun _ _ _ h => h) (Or.inl ⟨by rfl, ?_⟩) ⟨trivial, HC.out _ HR0.out⟩ ?_
  rotate_left
  · (intro x hx; clear hx; go_simp; try with_reducible rfl)
  try simp only [Act.put, List.setIfInBounds_toArray, List.set_cons_zero, List.set_cons_succ]
  refine wpAnyS_takeU 1 ⟨some 33, .load 23 (.tmp 32), 23, _, _, none⟩ (v := ?_) rfl (by kernel_rfl) (by kernel_rfl) (by kernel_rfl) (by kernel_rfl) (by kernel_rfl) (fun _ _ _ h => h) (Or.inl ⟨by rfl, ?_⟩) ⟨trivial, HC.out _ HR0.out⟩ ?_
  rotate_left
  · (intro x hx; obtain ⟨-, ⟨s1, s2⟩⟩ := hx; go_simp; try with_reducible rfl)
  try simp only [Act.put, List.setIfInBounds_toArray, List.set_cons_zero, List.set_cons_succ]
  refine wpAnyS_takeU 2 ⟨some 34, .fieldAddr 26 (.tmp 5) 3, _, _, _, none⟩ (v := ?_) rfl (by kernel_rfl) (by kernel_rfl) (by kernel_rfl) (by kernel_rfl) (by kernel_rfl) (fun _ _ _ h => h) (Or.inl ⟨by rfl, ?_⟩) ⟨trivial, HC.out _ HR0.out⟩ ?_
  rotate_left
  · (intro x hx; clear hx; go_simp; try with_reducible rfl)
  try simp only [Act.put, List.setIfInBounds_toArray, List.set_cons_zero, List.set_cons_succ]
  refine wpAnyS_takeU 3 ⟨some 35, .load 23 (.tmp 34), 23, _, _, none⟩ (v := ?_) rfl (by kernel_rfl) (by kernel_rfl) (by kernel_rfl) (by kernel_rfl) (by kernel_rfl) (fun _ _ _ h => h) (Or.inl ⟨by rfl, ?_⟩) ⟨trivial, HC.out _ HR0.out⟩ ?_
  rotate_left
  · (intro x hx; obtain ⟨-, ⟨s1, s2⟩⟩ := hx; go_simp; try with_reducible rfl)
  try simp only [Act.put, List.setIfInBounds_toArray, List.set_cons_zero, List.set_cons_succ]
  refine wpAnyS_takeU 5 ⟨some 37, .fieldAddr 26 (.tmp 5) 3, _, _, _, none⟩ (v := ?_) rfl (by kernel_rfl) (by kernel_rfl) (by kernel_rfl) (by kernel_rfl) (by kernel_rfl) (fun _ _ _ h => h) (Or.inl ⟨by rfl, ?_⟩) ⟨trivial, HC.out _ HR0.out⟩ ?_
  rotate_left
  · (intro x hx; clear hx; go_simp; try with_reducible rfl)
  try simp only [Act.put, List.setIfInBounds_toArray, List.set_cons_zero, List.set_cons_succ]
  refine wpAnyS_takeU 6 ⟨some 38, .load 23 (.tmp 37), 23, _, _, none⟩ (v := ?_) rfl (by kernel_rfl) (by kernel_rfl) (by kernel_rfl) (by kernel_rfl) (by kernel_rfl) (fun _ _ _ h => h) (Or.inl ⟨by rfl, ?_⟩) ⟨trivial, HC.out _ HR0.out⟩ ?_
  rotate_left
  · (intro x hx; obtain ⟨-, ⟨s1, s2⟩⟩ := hx; go_simp; try with_reducible rfl)
  try simp only [Act.put, List.setIfInBounds_toArray, List.set_cons_zero, List.set_cons_succ]
  refine wpAnyS_takeU 7 ⟨some 39, .fieldAddr 26 (.tmp 5) 3, _, _, _, none⟩ (v := ?_) rfl (by kernel_rfl) (by kernel_rfl) (by kernel_rfl) (by kernel_rfl) (by kernel_rfl) (fun _ _ _ h => h) (Or.inl ⟨by rfl, ?_⟩) ⟨trivial, HC.out _ HR0.out⟩ ?_
  rotate_left
  · (intro x hx; clear hx; go_simp; try with_reducible rfl)
  try simp only [Act.put, List.setIfInBounds_toArray, List.set_cons_zero, List.set_cons_succ]
  refine wpAnyS_takeU 8 ⟨some 40, .load 23 (.tmp 39), 23, _, _, none⟩ (v := ?_) rfl (by kernel_rfl) (by kernel_rfl) (by kernel_rfl) (by kernel_rfl) (by kernel_rfl) (fun _ _ _ h => h) (Or.inl ⟨by rfl, ?_⟩) ⟨trivial, HC.out _ HR0.out⟩ ?_
  rotate_left
  · (intro x hx; obtain ⟨-, ⟨s1, s2⟩⟩ := hx; go_simp; try with_reducible rfl)
  try simp only [Act.put, List.setIfInBounds_toArray, List.set_cons_zero, List.set_cons_succ]
  refine wpAnyS_ready [4] (by kernel_rfl) (by simp) ?_
  refine AllReadyS.cons ⟨some 36, .call { callee := .value (.func 59), args := #[.tmp 33, .tmp 35], argTypes := #[23, 23] }, 23, _, _, none⟩ rfl (fun K hK => ?_) AllReadyS.nil
  go_simp
  go_at_call 59
  refine (Sorted_ok l ks HP.out.ok HP.out.len HP.out.lim _ S (HJ.out _ HR0.out).1 _ _ (HJ.out _ HR0.out).2.1 (HJ.out _ HR0.out).2.2).mono ?_
  rintro e w2 ⟨v1, rfl, hx, hj⟩
  have HR1 := Lib.hid (HR0.out.trans (hx.mono HR0.out.size))
  have HL := Lib.hid (hj.keep (S' := With S W1.heap.size w2) (fun _ _ => rfl) (fun b h => h.imp_right fun q => ⟨Nat.le_trans HR0.out.size q.1, q.2⟩))
  obtain ⟨p1, m1, rfl, -⟩ := hj.at
  clear hx hj
  try go_simp
  refine hK _ _ trivial (fun _ _ => HC.out _ HR1.out) ?_
  clear hK K
  try simp only [Act.put, List.setIfInBounds_toArray, List.set_cons_zero, List.set_cons_succ]
  refine wpAnyS_ready [9] (by kernel_rfl) (by simp) ?_
  refine AllReadyS.cons ⟨some 41, .call { callee := .value (.func 59), args := #[.tmp 38, .tmp 40], argTypes := #[23, 23] }, 23, _, _, none⟩ rfl (fun K hK => ?_) AllReadyS.nil
  go_simp
  go_at_call 59
  refine (Sorted_ok ks ks HP.out.ok rfl (by rw [HP.out.len]; exact HP.out.lim) _ S (HJ.out _ HR1.out).1 _ _ (HJ.out _ HR1.out).2.2 (HJ.out _ HR1.out).2.2).mono ?_
  rintro e w3 ⟨v2, rfl, hx, hj⟩
  have HR2 := Lib.hid (HR1.out.trans (hx.mono HR1.out.size))
  have HL2 := Lib.hid (HL.out.keep (S' := With S W1.heap.size w3) (.of_below hx (With.lt (fun b hb => Nat.lt_of_lt_of_le (HS.out b hb) (by omega)) HR1.out.size)) (fun b h => h.imp_right fun q => ⟨q.1, Nat.lt_of_lt_of_le q.2 hx.size⟩))
  have HK := Lib.hid (hj.keep (S' := With S W1.heap.size w3) (fun _ _ => rfl) (fun b h => h.imp_right fun q => ⟨Nat.le_trans HR1.out.size q.1, q.2⟩))
  obtain ⟨p2, m2, rfl, -⟩ := hj.at
  clear hx hj
  try go_simp
  refine hK _ _ trivial (fun _ _ => HC.out _ HR2.out) ?_
  clear hK K
  try simp only [Act.put, List.setIfInBounds_toArray, List.set_cons_zero, List.set_cons_succ]
  refine wpAnyS_rest 10 (fun _ => trivial) rfl (by kernel_rfl) (by kernel_rfl) ?_
  simp only [List.drop_succ_cons, List.drop_zero]
  have hlo : (ordL l ks).length = l.length := by rw [ordL_length HP.out.ok, HP.out.len]
  have hko : (ordL ks ks).length = l.length := by rw [ordL_length HP.out.ok, HP.out.len]
  rw [hlo, hko]
  rw [hlo] at HL2
  rw [hko] at HK
  go_wp2_with (go_at_call 19; refine (arr19_ok _ _ _ _).mono ?_; rintro e w4 ⟨rfl, hx⟩; have HX4 := Lib.hid hx; have HR3 := Lib.hid (HR2.out.trans (hx.mono HR2.out.size)); clear hx; obtain ⟨y0, y1, y2, y3, y4, y5⟩ := (KEY.out _ HR3.out).2.2.2.c; have yf := (KEY.out _ HR3.out).2.2.2.f)
  have HZ := Lib.hid (set6_box (KEY.out _ HR3.out).2.2.2 (k' := 5) (h' := 0) (t' := ⟨#[]⟩) (r1 := .slice p1 l.length m1) (r2 := .slice none 0 0) (r3 := .slice none 0 0)).c
  refine bodyPost_ret (w := set6 w4 (w.heap.size + 1 + 1) (.int .i64 5) (.int .i64 0) (.string ⟨#[]⟩) (.slice p1 l.length m1) (.slice none 0 0) (.slice none 0 0)) (v := .tuple #[.agg #[.int .i64 5, .int .i64 0, .string ⟨#[]⟩, .slice p1 l.length m1, .slice none 0 0, .slice none 0 0], .int .i64 0]) ?_ rfl ?_
  · obtain ⟨y0, y1, y2, y3, y4, y5⟩ := HZ.out
    simp [results, Tryz.results25, go_sem, y0, y1, y2, y3, y4, y5]
  · obtain ⟨q1, q2⟩ := by_same (w := w) (W1 := W1) (B := (w.heap.size + 1 + 1)) HS.out (by omega) (by omega) HR2.out.size HX4.out (.int .i64 5) (.int .i64 0) (.string ⟨#[]⟩) (.slice p1 l.length m1) (.slice none 0 0) (.slice none 0 0)
    exact ⟨_, _, _, _, _, _, _, _, rfl, (KEY.out _ HR3.out).1.trans (below_set6 (by omega) _ _ _ _ _ _), jrep_arr ((HL2.out).keep q1 q2), ⟨by rw [ordL_length HP.out.ok, HP.out.len]; exact HP.out.lim, (oks_iff _).2 (ordL_oks HP.out.okl)⟩, .inr ⟨rfl, rfl⟩⟩

set_option maxHeartbeats 4000000 in
set_option maxRecDepth 100000 in
theorem By_unique (l ks : List J) (H : Pair l ks) (w : World) (S : Nat → Prop) (hS : ∀ b, S b → b < w.heap.size) (a1 a2 : Option Addr) (c1 c2 : Nat) (ha : JSl w S l (.slice a1 l.length c1)) (hb : JSl w S ks (.slice a2 ks.length c2)) :
    Calls Tryz.prog 25 #[.string ⟨#[117, 110, 105, 113, 117, 101, 95, 98, 121]⟩, .agg #[.int .i64 5, .int .i64 0, .string ⟨#[]⟩, .slice a1 l.length c1, .slice none 0 0, .slice none 0 0], .agg #[.int .i64 5, .int .i64 0, .string ⟨#[]⟩, .slice a2 ks.length c2, .slice none 0 0, .slice none 0 0]] w (ByRes w S (byJ l ks 2)) := by
  have hne : ((l.length : Int) != ks.length) = false := by rw [H.len]; simp
  have HP := Lib.hid H
  have HS := Lib.hid hS
  have HA := Lib.hid (And.intro ha hb)
  have hB0 := below3 w (.cells #[.int .i64 5, .int .i64 0, .string ⟨#[]⟩, .slice a1 l.length c1, .slice none 0 0, .slice none 0 0] 26) (.cells #[.int .i64 5, .int .i64 0, .string ⟨#[]⟩, .slice a2 ks.length c2, .slice none 0 0, .slice none 0 0] 26) (.cells #[.int .i64 0, .int .i64 0, .string ⟨#[]⟩, .slice none 0 0, .slice none 0 0, .slice none 0 0] 26)
  have e1 : (w.alloc (.cells #[.int .i64 5, .int .i64 0, .string ⟨#[]⟩, .slice a1 l.length c1, .slice none 0 0, .slice none 0 0] 26)).heap.size = w.heap.size + 1 := size_alloc _ _
  have e2 : ((w.alloc (.cells #[.int .i64 5, .int .i64 0, .string ⟨#[]⟩, .slice a1 l.length c1, .slice none 0 0, .slice none 0 0] 26)).alloc (.cells #[.int .i64 5, .int .i64 0, .string ⟨#[]⟩, .slice a2 ks.length c2, .slice none 0 0, .slice none 0 0] 26)).heap.size = w.heap.size + 2 := by rw [size_alloc, e1]
  have e3 : (((w.alloc (.cells #[.int .i64 5, .int .i64 0, .string ⟨#[]⟩, .slice a1 l.length c1, .slice none 0 0, .slice none 0 0] 26)).alloc (.cells #[.int .i64 5, .int .i64 0, .string ⟨#[]⟩, .slice a2 ks.length c2, .slice none 0 0, .slice none 0 0] 26)).alloc (.cells #[.int .i64 0, .int .i64 0, .string ⟨#[]⟩, .slice none 0 0, .slice none 0 0, .slice none 0 0] 26)).heap.size = w.heap.size + 3 := by rw [size_alloc, e2]
  have q1 := Box.new w 5 0 ⟨#[]⟩ (.slice a1 l.length c1) (.slice none 0 0) (.slice none 0 0)
  have q2 := Box.new (w.alloc (.cells #[.int .i64 5, .int .i64 0, .string ⟨#[]⟩, .slice a1 l.length c1, .slice none 0 0, .slice none 0 0] 26)) 5 0 ⟨#[]⟩ (.slice a2 ks.length c2) (.slice none 0 0) (.slice none 0 0)
  have q3 := Box.new ((w.alloc (.cells #[.int .i64 5, .int .i64 0, .string ⟨#[]⟩, .slice a1 l.length c1, .slice none 0 0, .slice none 0 0] 26)).alloc (.cells #[.int .i64 5, .int .i64 0, .string ⟨#[]⟩, .slice a2 ks.length c2, .slice none 0 0, .slice none 0 0] 26)) 0 0 ⟨#[]⟩ (.slice none 0 0) (.slice none 0 0) (.slice none 0 0)
  rw [e1] at q2
  rw [e2] at q3
  replace q1 := ((Below.heap_alloc ((w.alloc (.cells #[.int .i64 5, .int .i64 0, .string ⟨#[]⟩, .slice a1 l.length c1, .slice none 0 0, .slice none 0 0] 26)).alloc (.cells #[.int .i64 5, .int .i64 0, .string ⟨#[]⟩, .slice a2 ks.length c2, .slice none 0 0, .slice none 0 0] 26)) (.cells #[.int .i64 0, .int .i64 0, .string ⟨#[]⟩, .slice none 0 0, .slice none 0 0, .slice none 0 0] 26) w.heap.size (by rw [e2]; omega)).trans ((Below.heap_alloc (w.alloc (.cells #[.int .i64 5, .int .i64 0, .string ⟨#[]⟩, .slice a1 l.length c1, .slice none 0 0, .slice none 0 0] 26)) (.cells #[.int .i64 5, .int .i64 0, .string ⟨#[]⟩, .slice a2 ks.length c2, .slice none 0 0, .slice none 0 0] 26) w.heap.size (by rw [e1]; omega)))).trans q1
  replace q2 := (Below.heap_alloc ((w.alloc (.cells #[.int .i64 5, .int .i64 0, .string ⟨#[]⟩, .slice a1 l.length c1, .slice none 0 0, .slice none 0 0] 26)).alloc (.cells #[.int .i64 5, .int .i64 0, .string ⟨#[]⟩, .slice a2 ks.length c2, .slice none 0 0, .slice none 0 0] 26)) (.cells #[.int .i64 0, .int .i64 0, .string ⟨#[]⟩, .slice none 0 0, .slice none 0 0, .slice none 0 0] 26) (w.heap.size + 1) (by rw [e2]; omega)).trans q2
  have HQ := Lib.hid (And.intro hB0 (And.intro e3 (And.intro q1 (And.intro q2 q3))))
  clear ha hb hB0 e1 e2 e3 q1 q2 q3 H hS
  go_enter Tryz.func25, Tryz.ntmps25
  go_upto_region 3 with fail
  generalize (((w.alloc (.cells #[.int .i64 5, .int .i64 0, .string ⟨#[]⟩, .slice a1 l.length c1, .slice none 0 0, .slice none 0 0] 26)).alloc (.cells #[.int .i64 5, .int .i64 0, .string ⟨#[]⟩, .slice a2 ks.length c2, .slice none 0 0, .slice none 0 0] 26)).alloc (.cells #[.int .i64 0, .int .i64 0, .string ⟨#[]⟩, .slice none 0 0, .slice none 0 0, .slice none 0 0] 26)) = W1 at *
  have hsz := HQ.out.2.1
  have KEY : Hid (∀ wx, Below W1.heap.size W1 wx → Below w.heap.size w wx ∧ Box wx w.heap.size 5 0 ⟨#[]⟩ (.slice a1 l.length c1) (.slice none 0 0) (.slice none 0 0) ∧ Box wx (w.heap.size + 1) 5 0 ⟨#[]⟩ (.slice a2 ks.length c2) (.slice none 0 0) (.slice none 0 0) ∧ Box wx (w.heap.size + 1 + 1) 0 0 ⟨#[]⟩ (.slice none 0 0) (.slice none 0 0) (.slice none 0 0)) := Lib.hid fun wx hx =>
    ⟨HQ.out.1.trans (hx.mono (by omega)), (hx.block _ (by omega)).trans HQ.out.2.2.1, (hx.block _ (by omega)).trans HQ.out.2.2.2.1, (hx.block _ (by omega)).trans HQ.out.2.2.2.2⟩
  have HJ : Hid (∀ wx, Below W1.heap.size W1 wx → (∀ b, S b → b < wx.heap.size) ∧ JSl wx S l (.slice a1 l.length c1) ∧ JSl wx S ks (.slice a2 ks.length c2)) := Lib.hid fun wx hx =>
    ⟨lt_below (KEY.out wx hx).1 HS.out, HA.out.1.keep (.of_below (KEY.out wx hx).1 HS.out) (fun _ h => h), HA.out.2.keep (.of_below (KEY.out wx hx).1 HS.out) (fun _ h => h)⟩
  have HR0 := Lib.hid (Below.refl W1.heap.size W1).drew
  have HC : Hid (∀ wx, Below W1.heap.size W1 wx → wx.cell? ⟨w.heap.size, 3, none⟩ = some (.slice a1 l.length c1) ∧ wx.cell? ⟨w.heap.size + 1, 3, none⟩ = some (.slice a2 ks.length c2)) := Lib.hid fun wx hx => by
    obtain ⟨_, k1, k2, _⟩ := KEY.out wx hx
    exact ⟨k1.c.2.2.2.1, k2.c.2.2.2.1⟩
  refine wp_region_S (fun i => decide (10 ≤ i)) (fun w4 => w4.cell? ⟨w.heap.size, 3, none⟩ = some (.slice a1 l.length c1) ∧ w4.cell? ⟨w.heap.size + 1, 3, none⟩ = some (.slice a2 ks.length c2)) (fun _ => True) (by kernel_rfl) ?_
  refine wpAnyS_takeU 0 ⟨some 32, .fieldAddr 26 (.tmp 4) 3, _, _, _, none⟩ (v := ?_) rfl (by kernel_rfl) (by kernel_rfl) (by kernel_rfl) (by kernel_rfl) (by kernel_rfl) (fun _ _ _ h => h) (Or.inl ⟨by rfl, ?_⟩) ⟨trivial, HC.out _ HR0.out⟩ ?_
  rotate_left
  · (intro x hx; clear hx; go_simp; try with_reducible rfl)
  try simp only [Act.put, List.setIfInBounds_toArray, List.set_cons_zero, List.set_cons_succ]
  refine wpAnyS_takeU 1 ⟨some 33, .load 23 (.tmp 32), 23, _, _, none⟩ (v := ?_) rfl (by kernel_rfl) (by kernel_rfl) (by kernel_rfl) (by kernel_rfl) (by kernel_rfl) (fun _ _ _ h => h) (Or.inl ⟨by rfl, ?_⟩) ⟨trivial, HC.out _ HR0.out⟩ ?_
  rotate_left
  · (intro x hx; obtain ⟨-, ⟨s1, s2⟩⟩ := hx; go_simp; try with_reducible rfl)
  try simp only [Act.put, List.setIfInBounds_toArray, List.set_cons_zero, List.set_cons_succ]
  refine wpAnyS_takeU 2 ⟨some 34, .fieldAddr 26 (.tmp 5) 3, _, _, _, none⟩ (v := ?_) rfl (by kernel_rfl) (by kernel_rfl) (by kernel_rfl) (by kernel_rfl) (by kernel_rfl) (fun _ _ _ h => h) (Or.inl ⟨by rfl, ?_⟩) ⟨trivial, HC.out _ HR0.out⟩ ?_
  rotate_left
  · (intro x hx; clear hx; go_simp; try with_reducible rfl)
  try simp only [Act.put, List.setIfInBounds_toArray, List.set_cons_zero, List.set_cons_succ]
  refine wpAnyS_takeU 3 ⟨some 35, .load 23 (.tmp 34), 23, _, _, none⟩ (v := ?_) rfl (by kernel_rfl) (by kernel_rfl) (by kernel_rfl) (by kernel_rfl) (by kernel_rfl) (fun _ _ _ h => h) (Or.inl ⟨by rfl, ?_⟩) ⟨trivial, HC.out _ HR0.out⟩ ?_
  rotate_left
  · (intro x hx; obtain ⟨-, ⟨s1, s2⟩⟩ := hx; go_simp; try with_reducible rfl)
  try simp only [Act.put, List.setIfInBounds_toArray, List.set_cons_zero, List.set_cons_succ]
  refine wpAnyS_takeU 5 ⟨some 37, .fieldAddr 26 (.tmp 5) 3, _, _, _, none⟩ (v := ?_) rfl (by kernel_rfl) (by kernel_rfl) (by kernel_rfl) (by kernel_rfl) (by kernel_rfl) (fun _ _ _ h => h) (Or.inl ⟨by rfl, ?_⟩) ⟨trivial, HC.out _ HR0.out⟩ ?_
  rotate_left
  · (intro x hx; clear hx; go_simp; try with_reducible rfl)
  try simp only [Act.put, List.setIfInBounds_toArray, List.set_cons_zero, List.set_cons_succ]
  refine wpAnyS_takeU 6 ⟨some 38, .load 23 (.tmp 37), 23, _, _, none⟩ (v := ?_) rfl (by kernel_rfl) (by kernel_rfl) (by kernel_rfl) (by kernel_rfl) (by kernel_rfl) (fun _ _ _ h => h) (Or.inl ⟨by rfl, ?_⟩) ⟨trivial, HC.out _ HR0.out⟩ ?_
  rotate_left
  · (intro x hx; obtain ⟨-, ⟨s1, s2⟩⟩ := hx; go_simp; try with_reducible rfl)
  try simp only [Act.put, List.setIfInBounds_toArray, List.set_cons_zero, List.set_cons_succ]
  refine wpAnyS_takeU 7 ⟨some 39, .fieldAddr 26 (.tmp 5) 3, _, _, _, none⟩ (v := ?_) rfl (by kernel_rfl) (by kernel_rfl) (by kernel_rfl) (by kernel_rfl) (by kernel_rfl) (fun _ _ _ h => h) (Or.inl ⟨by rfl, ?_⟩) ⟨trivial, HC.out _ HR0.out⟩ ?_
  rotate_left
  · (intro x hx; clear hx; go_simp; try with_reducible rfl)
  try simp only [Act.put, List.setIfInBounds_toArray, List.set_cons_zero, List.set_cons_succ]
  refine wpAnyS_takeU 8 ⟨some 40, .load 23 (.tmp 39), 23, _, _, none⟩ (v := ?_) rfl (by kernel_rfl) (by kernel_rfl) (by kernel_rfl) (by kernel_rfl) (by kernel_rfl) (fun _ _ _ h => h) (Or.inl ⟨by rfl, ?_⟩) ⟨trivial, HC.out _ HR0.out⟩ ?_
  rotate_left
  · (intro x hx; obtain ⟨-, ⟨s1, s2⟩⟩ := hx; go_simp; try with_reducible rfl)
  try simp only [Act.put, List.setIfInBounds_toArray, List.set_cons_zero, List.set_cons_succ]
  refine wpAnyS_ready [4] (by kernel_rfl) (by simp) ?_
  refine AllReadyS.cons ⟨some 36, .call { callee := .value (.func 59), args := #[.tmp 33, .tmp 35], argTypes := #[23, 23] }, 23, _, _, none⟩ rfl (fun K hK => ?_) AllReadyS.nil
  go_simp
  go_at_call 59
  refine (Sorted_ok l ks HP.out.ok HP.out.len HP.out.lim _ S (HJ.out _ HR0.out).1 _ _ (HJ.out _ HR0.out).2.1 (HJ.out _ HR0.out).2.2).mono ?_
  rintro e w2 ⟨v1, rfl, hx, hj⟩
  have HR1 := Lib.hid (HR0.out.trans (hx.mono HR0.out.size))
  have HL := Lib.hid (hj.keep (S' := With S W1.heap.size w2) (fun _ _ => rfl) (fun b h => h.imp_right fun q => ⟨Nat.le_trans HR0.out.size q.1, q.2⟩))
  obtain ⟨p1, m1, rfl, -⟩ := hj.at
  clear hx hj
  try go_simp
  refine hK _ _ trivial (fun _ _ => HC.out _ HR1.out) ?_
  clear hK K
  try simp only [Act.put, List.setIfInBounds_toArray, List.set_cons_zero, List.set_cons_succ]
  refine wpAnyS_ready [9] (by kernel_rfl) (by simp) ?_
  refine AllReadyS.cons ⟨some 41, .call { callee := .value (.func 59), args := #[.tmp 38, .tmp 40], argTypes := #[23, 23] }, 23, _, _, none⟩ rfl (fun K hK => ?_) AllReadyS.nil
  go_simp
  go_at_call 59
  refine (Sorted_ok ks ks HP.out.ok rfl (by rw [HP.out.len]; exact HP.out.lim) _ S (HJ.out _ HR1.out).1 _ _ (HJ.out _ HR1.out).2.2 (HJ.out _ HR1.out).2.2).mono ?_
  rintro e w3 ⟨v2, rfl, hx, hj⟩
  have HR2 := Lib.hid (HR1.out.trans (hx.mono HR1.out.size))
  have HL2 := Lib.hid (HL.out.keep (S' := With S W1.heap.size w3) (.of_below hx (With.lt (fun b hb => Nat.lt_of_lt_of_le (HS.out b hb) (by omega)) HR1.out.size)) (fun b h => h.imp_right fun q => ⟨q.1, Nat.lt_of_lt_of_le q.2 hx.size⟩))
  have HK := Lib.hid (hj.keep (S' := With S W1.heap.size w3) (fun _ _ => rfl) (fun b h => h.imp_right fun q => ⟨Nat.le_trans HR1.out.size q.1, q.2⟩))
  obtain ⟨p2, m2, rfl, -⟩ := hj.at
  clear hx hj
  try go_simp
  refine hK _ _ trivial (fun _ _ => HC.out _ HR2.out) ?_
  clear hK K
  try simp only [Act.put, List.setIfInBounds_toArray, List.set_cons_zero, List.set_cons_succ]
  refine wpAnyS_rest 10 (fun _ => trivial) rfl (by kernel_rfl) (by kernel_rfl) ?_
  simp only [List.drop_succ_cons, List.drop_zero]
  have hlo : (ordL l ks).length = l.length := by rw [ordL_length HP.out.ok, HP.out.len]
  have hko : (ordL ks ks).length = l.length := by rw [ordL_length HP.out.ok, HP.out.len]
  rw [hlo, hko]
  rw [hlo] at HL2
  rw [hko] at HK
  have HON := Lib.hid (once_ok (ordL l ks) (ordL ks ks) (ordL_oks HP.out.ok) (hko.trans hlo.symm) (by rw [hlo]; exact HP.out.lim) w3 (With S W1.heap.size w3) (With.lt (fun b hb => Nat.lt_of_lt_of_le (HS.out b hb) (by omega)) HR2.out.size) _ _ HL2.out HK.out)
  rw [hlo] at HON
  go_wp2_with (first | (go_at_call 60; refine HON.out.mono ?_; rintro e w4 ⟨v4, rfl, hx, hj⟩; have HR3 := Lib.hid (HR2.out.trans (hx.mono HR2.out.size)); have HN4 := Lib.hid (hj.keep (S' := With S W1.heap.size w4) (fun _ _ => rfl) (fun b h => h.elim (fun q => q.imp_right fun r => ⟨r.1, Nat.lt_of_lt_of_le r.2 hx.size⟩) (fun q => .inr ⟨Nat.le_trans HR2.out.size q.1, q.2⟩))); obtain ⟨p3, m3, rfl, -⟩ := hj.at; clear hx hj) | (go_at_call 19; refine (arr19_ok _ _ _ _).mono ?_; rintro e w5 ⟨rfl, hx⟩; have HX5 := Lib.hid hx; have HR4 := Lib.hid (HR3.out.trans (hx.mono HR3.out.size)); clear hx; obtain ⟨y0, y1, y2, y3, y4, y5⟩ := (KEY.out _ HR4.out).2.2.2.c; have yf := (KEY.out _ HR4.out).2.2.2.f))
  have HZ := Lib.hid (set6_box (KEY.out _ HR4.out).2.2.2 (k' := 5) (h' := 0) (t' := ⟨#[]⟩) (r1 := .slice p3 (onceN (ordL l ks) (ordL ks ks) l.length).length m3) (r2 := .slice none 0 0) (r3 := .slice none 0 0)).c
  refine bodyPost_ret (w := set6 w5 (w.heap.size + 1 + 1) (.int .i64 5) (.int .i64 0) (.string ⟨#[]⟩) (.slice p3 (onceN (ordL l ks) (ordL ks ks) l.length).length m3) (.slice none 0 0) (.slice none 0 0)) (v := .tuple #[.agg #[.int .i64 5, .int .i64 0, .string ⟨#[]⟩, .slice p3 (onceN (ordL l ks) (ordL ks ks) l.length).length m3, .slice none 0 0, .slice none 0 0], .int .i64 0]) ?_ rfl ?_
  · obtain ⟨y0, y1, y2, y3, y4, y5⟩ := HZ.out
    simp [results, Tryz.results25, go_sem, y0, y1, y2, y3, y4, y5]
  · obtain ⟨q1, q2⟩ := by_same (w := w) (W1 := W1) (B := (w.heap.size + 1 + 1)) HS.out (by omega) (by omega) HR3.out.size HX5.out (.int .i64 5) (.int .i64 0) (.string ⟨#[]⟩) (.slice p3 (onceN (ordL l ks) (ordL ks ks) l.length).length m3) (.slice none 0 0) (.slice none 0 0)
    exact ⟨_, _, _, _, _, _, _, _, rfl, (KEY.out _ HR4.out).1.trans (below_set6 (by omega) _ _ _ _ _ _), jrep_arr ((HN4.out).keep q1 q2), ⟨by have := onceN_length (ordL l ks) (ordL ks ks) l.length; have := HP.out.lim; omega, (oks_iff _).2 (onceN_ok _ _ (ordL_oks HP.out.okl) _)⟩, .inr ⟨rfl, rfl⟩⟩
end Go.Gj
