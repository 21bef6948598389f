/-
  spec.By: max_by. (Printed by wip/gen_by.py.)
-/
import Derived.Test.YtnlndpgbhmkanaaGreatDoorWBy3
namespace Go.Gj
set_option linter.unusedSimpArgs false
set_option linter.unusedVariables false
set_option linter.unnecessarySimpa false
open Go Go.RowKit Go.Proofs

set_option maxHeartbeats 4000000 in
set_option maxRecDepth 100000 in
theorem By_max (l ks : List J) (H : Pair l ks) (w : World) (S : Nat → Prop) (hS : ∀ b, S b → b < w.heap.size) (a1 a2 : Option Addr) (c1 c2 : Nat) (ha : JSl w S l (.slice a1 l.length c1)) (hb : JSl w S ks (.slice a2 ks.length c2)) :
    Calls Tryz.prog 25 #[.string ⟨#[109, 97, 120, 95, 98, 121]⟩, .agg #[.int .i64 5, .int .i64 0, .string ⟨#[]⟩, .slice a1 l.length c1, .slice none 0 0, .slice none 0 0], .agg #[.int .i64 5, .int .i64 0, .string ⟨#[]⟩, .slice a2 ks.length c2, .slice none 0 0, .slice none 0 0]] w (ByRes w S (byJ l ks 4)) := by
  have hne : ((l.length : Int) != ks.length) = false := by rw [H.len]; simp
  have HP := Lib.hid H
  have HS := Lib.hid hS
  have HA := Lib.hid (And.intro ha hb)
  have hB0 := below3 w (.cells #[.int .i64 5, .int .i64 0, .string ⟨#[]⟩, .slice a1 l.length c1, .slice none 0 0, .slice none 0 0] 26) (.cells #[.int .i64 5, .int .i64 0, .string ⟨#[]⟩, .slice a2 ks.length c2, .slice none 0 0, .slice none 0 0] 26) (.cells #[.int .i64 0, .int .i64 0, .string ⟨#[]⟩, .slice none 0 0, .slice none 0 0, .slice none 0 0] 26)
  have e1 : (w.alloc (.cells #[.int .i64 5, .int .i64 0, .string ⟨#[]⟩, .slice a1 l.length c1, .slice none 0 0, .slice none 0 0] 26)).heap.size = w.heap.size + 1 := size_alloc _ _
  have e2 : ((w.alloc (.cells #[.int .i64 5, .int .i64 0, .string ⟨#[]⟩, .slice a1 l.length c1, .slice none 0 0, .slice none 0 0] 26)).alloc (.cells #[.int .i64 5, .int .i64 0, .string ⟨#[]⟩, .slice a2 ks.length c2, .slice none 0 0, .slice none 0 0] 26)).heap.size = w.heap.size + 2 := by rw [size_alloc, e1]
  have e3 : (((w.alloc (.cells #[.int .i64 5, .int .i64 0, .string ⟨#[]⟩, .slice a1 l.length c1, .slice none 0 0, .slice none 0 0] 26)).alloc (.cells #[.int .i64 5, .int .i64 0, .string ⟨#[]⟩, .slice a2 ks.length c2, .slice none 0 0, .slice none 0 0] 26)).alloc (.cells #[.int .i64 0, .int .i64 0, .string ⟨#[]⟩, .slice none 0 0, .slice none 0 0, .slice none 0 0] 26)).heap.size = w.heap.size + 3 := by rw [size_alloc, e2]
  have q1 := Box.new w 5 0 ⟨#[]⟩ (.slice a1 l.length c1) (.slice none 0 0) (.slice none 0 0)
  have q2 := Box.new (w.alloc (.cells #[.int .i64 5, .int .i64 0, .string ⟨#[]⟩, .slice a1 l.length c1, .slice none 0 0, .slice none 0 0] 26)) 5 0 ⟨#[]⟩ (.slice a2 ks.length c2) (.slice none 0 0) (.slice none 0 0)
  have q3 := Box.new ((w.alloc (.cells #[.int .i64 5, .int .i64 0, .string ⟨#[]⟩, .slice a1 l.length c1, .slice none 0 0, .slice none 0 0] 26)).alloc (.cells #[.int .i64 5, .int .i64 0, .string ⟨#[]⟩, .slice a2 ks.length c2, .slice none 0 0, .slice none 0 0] 26)) 0 0 ⟨#[]⟩ (.slice none 0 0) (.slice none 0 0) (.slice none 0 0)
  rw [e1] at q2
  rw [e2] at q3
  replace q1 := ((Below.heap_alloc ((w.alloc (.cells #[.int .i64 5, .int .i64 0, .string ⟨#[]⟩, .slice a1 l.length c1, .slice none 0 0, .slice none 0 0] 26)).alloc (.cells #[.int .i64 5, .int .i64 0, .string ⟨#[]⟩, .slice a2 ks.length c2, .slice none 0 0, .slice none 0 0] 26)) (.cells #[.int .i64 0, .int .i64 0, .string ⟨#[]⟩, .slice none 0 0, .slice none 0 0, .slice none 0 0] 26) w.heap.size (by rw [e2]; omega)).trans ((Below.heap_alloc (w.alloc (.cells #[.int .i64 5, .int .i64 0, .string ⟨#[]⟩, .slice a1 l.length c1, .slice none 0 0, .slice none 0 0] 26)) (.cells #[.int .i64 5, .int .i64 0, .string ⟨#[]⟩, .slice a2 ks.length c2, .slice none 0 0, .slice none 0 0] 26) w.heap.size (by rw [e1]; omega)))).trans q1
  replace q2 := (Below.heap_alloc ((w.alloc (.cells #[.int .i64 5, .int .i64 0, .string ⟨#[]⟩, .slice a1 l.length c1, .slice none 0 0, .slice none 0 0] 26)).alloc (.cells #[.int .i64 5, .int .i64 0, .string ⟨#[]⟩, .slice a2 ks.length c2, .slice none 0 0, .slice none 0 0] 26)) (.cells #[.int .i64 0, .int .i64 0, .string ⟨#[]⟩, .slice none 0 0, .slice none 0 0, .slice none 0 0] 26) (w.heap.size + 1) (by rw [e2]; omega)).trans q2
  have HQ := Lib.hid (And.intro hB0 (And.intro e3 (And.intro q1 (And.intro q2 q3))))
  clear ha hb hB0 e1 e2 e3 q1 q2 q3 H hS
  go_enter Tryz.func25, Tryz.ntmps25
  go_upto_region 3 with fail
  generalize (((w.alloc (.cells #[.int .i64 5, .int .i64 0, .string ⟨#[]⟩, .slice a1 l.length c1, .slice none 0 0, .slice none 0 0] 26)).alloc (.cells #[.int .i64 5, .int .i64 0, .string ⟨#[]⟩, .slice a2 ks.length c2, .slice none 0 0, .slice none 0 0] 26)).alloc (.cells #[.int .i64 0, .int .i64 0, .string ⟨#[]⟩, .slice none 0 0, .slice none 0 0, .slice none 0 0] 26)) = W1 at *
  have hsz := HQ.out.2.1
  have KEY : Hid (∀ wx, Below W1.heap.size W1 wx → Below w.heap.size w wx ∧ Box wx w.heap.size 5 0 ⟨#[]⟩ (.slice a1 l.length c1) (.slice none 0 0) (.slice none 0 0) ∧ Box wx (w.heap.size + 1) 5 0 ⟨#[]⟩ (.slice a2 ks.length c2) (.slice none 0 0) (.slice none 0 0) ∧ Box wx (w.heap.size + 1 + 1) 0 0 ⟨#[]⟩ (.slice none 0 0) (.slice none 0 0) (.slice none 0 0)) := Lib.hid fun wx hx =>
    ⟨HQ.out.1.trans (hx.mono (by omega)), (hx.block _ (by omega)).trans HQ.out.2.2.1, (hx.block _ (by omega)).trans HQ.out.2.2.2.1, (hx.block _ (by omega)).trans HQ.out.2.2.2.2⟩
  have HJ : Hid (∀ wx, Below W1.heap.size W1 wx → (∀ b, S b → b < wx.heap.size) ∧ JSl wx S l (.slice a1 l.length c1) ∧ JSl wx S ks (.slice a2 ks.length c2)) := Lib.hid fun wx hx =>
    ⟨lt_below (KEY.out wx hx).1 HS.out, HA.out.1.keep (.of_below (KEY.out wx hx).1 HS.out) (fun _ h => h), HA.out.2.keep (.of_below (KEY.out wx hx).1 HS.out) (fun _ h => h)⟩
  have HR0 := Lib.hid (Below.refl W1.heap.size W1).drew
  have HC : Hid (∀ wx, Below W1.heap.size W1 wx → wx.cell? ⟨w.heap.size, 3, none⟩ = some (.slice a1 l.length c1) ∧ wx.cell? ⟨w.heap.size + 1, 3, none⟩ = some (.slice a2 ks.length c2)) := Lib.hid fun wx hx => by
    obtain ⟨_, k1, k2, _⟩ := KEY.out wx hx
    exact ⟨k1.c.2.2.2.1, k2.c.2.2.2.1⟩
  refine wp_region_S (fun i => decide (10 ≤ i)) (fun w4 => w4.cell? ⟨w.heap.size, 3, none⟩ = some (.slice a1 l.length c1) ∧ w4.cell? ⟨w.heap.size + 1, 3, none⟩ = some (.slice a2 ks.length c2)) (fun _ => True) (by kernel_rfl) ?_
  refine wpAnyS_takeU 0 ⟨some 32, .fieldAddr 26 (.tmp 4) 3, _, _, _, none⟩ (v := ?_) rfl (by kernel_rfl) (by kernel_rfl) (by kernel_rfl) (by kernel_rfl) (by kernel_rfl) (fun _ _ _ h => h) (Or.inl ⟨by rfl, ?_⟩) ⟨trivial, HC.out _ HR0.out⟩ ?_
  rotate_left
  · (intro x hx; clear hx; go_simp; try with_reducible rfl)
  try simp only [Act.put, List.setIfInBounds_toArray, List.set_cons_zero, List.set_cons_succ]
  refine wpAnyS_takeU 1 ⟨some 33, .load 23 (.tmp 32), 23, _, _, none⟩ (v := ?_) rfl (by kernel_rfl) (by kernel_rfl) (by kernel_rfl) (by kernel_rfl) (by kernel_rfl) (fun _ _ _ h => h) (Or.inl ⟨by rfl, ?_⟩) ⟨trivial, HC.out _ HR0.out⟩ ?_
  rotate_left
  · (intro x hx; obtain ⟨-, ⟨s1, s2⟩⟩ := hx; go_simp; try with_reducible rfl)
  try simp only [Act.put, List.setIfInBounds_toArray, List.set_cons_zero, List.set_cons_succ]
  refine wpAnyS_takeU 2 ⟨some 34, .fieldAddr 26 (.tmp 5) 3, _, _, _, none⟩ (v := ?_) rfl (by kernel_rfl) (by kernel_rfl) (by kernel_rfl) (by kernel_rfl) (by kernel_rfl) (fun _ _ _ h => h) (Or.inl ⟨by rfl, ?_⟩) ⟨trivial, HC.out _ HR0.out⟩ ?_
  rotate_left
  · (intro x hx; clear hx; go_simp; try with_reducible rfl)
  try simp only [Act.put, List.setIfInBounds_toArray, List.set_cons_zero, List.set_cons_succ]
  refine wpAnyS_takeU 3 ⟨some 35, .load 23 (.tmp 34), 23, _, _, none⟩ (v := ?_) rfl (by kernel_rfl) (by kernel_rfl) (by kernel_rfl) (by kernel_rfl) (by kernel_rfl) (fun _ _ _ h => h) (Or.inl ⟨by rfl, ?_⟩) ⟨trivial, HC.out _ HR0.out⟩ ?_
  rotate_left
  · (intro x hx; obtain ⟨-, ⟨s1, s2⟩⟩ := hx; go_simp; try with_reducible rfl)
  try simp only [Act.put, List.setIfInBounds_toArray, List.set_cons_zero, List.set_cons_succ]
  refine wpAnyS_takeU 5 ⟨some 37, .fieldAddr 26 (.tmp 5) 3, _, _, _, none⟩ (v := ?_) rfl (by kernel_rfl) (by kernel_rfl) (by kernel_rfl) (by kernel_rfl) (by kernel_rfl) (fun _ _ _ h => h) (Or.inl ⟨by rfl, ?_⟩) ⟨trivial, HC.out _ HR0.out⟩ ?_
  rotate_left
  · (intro x hx; clear hx; go_simp; try with_reducible rfl)
  try simp only [Act.put, List.setIfInBounds_toArray, List.set_cons_zero, List.set_cons_succ]
  refine wpAnyS_takeU 6 ⟨some 38, .load 23 (.tmp 37), 23, _, _, none⟩ (v := ?_) rfl (by kernel_rfl) (by kernel_rfl) (by kernel_rfl) (by kernel_rfl) (by kernel_rfl) (fun _ _ _ h => h) (Or.inl ⟨by rfl, ?_⟩) ⟨trivial, HC.out _ HR0.out⟩ ?_
  rotate_left
  · (intro x hx; obtain ⟨-, ⟨s1, s2⟩⟩ := hx; go_simp; try with_reducible rfl)
  try simp only [Act.put, List.setIfInBounds_toArray, List.set_cons_zero, List.set_cons_succ]
  refine wpAnyS_takeU 7 ⟨some 39, .fieldAddr 26 (.tmp 5) 3, _, _, _, none⟩ (v := ?_) rfl (by kernel_rfl) (by kernel_rfl) (by kernel_rfl) (by kernel_rfl) (by kernel_rfl) (fun _ _ _ h => h) (Or.inl ⟨by rfl, ?_⟩) ⟨trivial, HC.out _ HR0.out⟩ ?_
  rotate_left
  · (intro x hx; clear hx; go_simp; try with_reducible rfl)
  try simp only [Act.put, List.setIfInBounds_toArray, List.set_cons_zero, List.set_cons_succ]
  refine wpAnyS_takeU 8 ⟨some 40, .load 23 (.tmp 39), 23, _, _, none⟩ (v := ?_) rfl (by kernel_rfl) (by kernel_rfl) (by kernel_rfl) (by kernel_rfl) (by kernel_rfl) (fun _ _ _ h => h) (Or.inl ⟨by rfl, ?_⟩) ⟨trivial, HC.out _ HR0.out⟩ ?_
  rotate_left
  · (intro x hx; obtain ⟨-, ⟨s1, s2⟩⟩ := hx; go_simp; try with_reducible rfl)
  try simp only [Act.put, List.setIfInBounds_toArray, List.set_cons_zero, List.set_cons_succ]
  refine wpAnyS_ready [4] (by kernel_rfl) (by simp) ?_
  refine AllReadyS.cons ⟨some 36, .call { callee := .value (.func 59), args := #[.tmp 33, .tmp 35], argTypes := #[23, 23] }, 23, _, _, none⟩ rfl (fun K hK => ?_) AllReadyS.nil
  go_simp
  go_at_call 59
  refine (Sorted_ok l ks HP.out.ok HP.out.len HP.out.lim _ S (HJ.out _ HR0.out).1 _ _ (HJ.out _ HR0.out).2.1 (HJ.out _ HR0.out).2.2).mono ?_
  rintro e w2 ⟨v1, rfl, hx, hj⟩
  have HR1 := Lib.hid (HR0.out.trans (hx.mono HR0.out.size))
  have HL := Lib.hid (hj.keep (S' := With S W1.heap.size w2) (fun _ _ => rfl) (fun b h => h.imp_right fun q => ⟨Nat.le_trans HR0.out.size q.1, q.2⟩))
  obtain ⟨p1, m1, rfl, -⟩ := hj.at
  clear hx hj
  try go_simp
  refine hK _ _ trivial (fun _ _ => HC.out _ HR1.out) ?_
  clear hK K
  try simp only [Act.put, List.setIfInBounds_toArray, List.set_cons_zero, List.set_cons_succ]
  refine wpAnyS_ready [9] (by kernel_rfl) (by simp) ?_
  refine AllReadyS.cons ⟨some 41, .call { callee := .value (.func 59), args := #[.tmp 38, .tmp 40], argTypes := #[23, 23] }, 23, _, _, none⟩ rfl (fun K hK => ?_) AllReadyS.nil
  go_simp
  go_at_call 59
  refine (Sorted_ok ks ks HP.out.ok rfl (by rw [HP.out.len]; exact HP.out.lim) _ S (HJ.out _ HR1.out).1 _ _ (HJ.out _ HR1.out).2.2 (HJ.out _ HR1.out).2.2).mono ?_
  rintro e w3 ⟨v2, rfl, hx, hj⟩
  have HR2 := Lib.hid (HR1.out.trans (hx.mono HR1.out.size))
  have HL2 := Lib.hid (HL.out.keep (S' := With S W1.heap.size w3) (.of_below hx (With.lt (fun b hb => Nat.lt_of_lt_of_le (HS.out b hb) (by omega)) HR1.out.size)) (fun b h => h.imp_right fun q => ⟨q.1, Nat.lt_of_lt_of_le q.2 hx.size⟩))
  have HK := Lib.hid (hj.keep (S' := With S W1.heap.size w3) (fun _ _ => rfl) (fun b h => h.imp_right fun q => ⟨Nat.le_trans HR1.out.size q.1, q.2⟩))
  obtain ⟨p2, m2, rfl, -⟩ := hj.at
  clear hx hj
  try go_simp
  refine hK _ _ trivial (fun _ _ => HC.out _ HR2.out) ?_
  clear hK K
  try simp only [Act.put, List.setIfInBounds_toArray, List.set_cons_zero, List.set_cons_succ]
  refine wpAnyS_rest 10 (fun _ => trivial) rfl (by kernel_rfl) (by kernel_rfl) ?_
  simp only [List.drop_succ_cons, List.drop_zero]
  have hlo : (ordL l ks).length = l.length := by rw [ordL_length HP.out.ok, HP.out.len]
  have hko : (ordL ks ks).length = l.length := by rw [ordL_length HP.out.ok, HP.out.len]
  rw [hlo, hko]
  rw [hlo] at HL2
  rw [hko] at HK
  by_cases hn0 : l.length = 0
  · have hz : (l.length : Int) == 0 := by simp [hn0]
    have hz2 : ((l.length : Int) == 0) = true := hz
    have HN0 := Lib.hid hn0
    obtain ⟨y0, y1, y2, y3, y4, y5⟩ := (KEY.out _ HR2.out).2.2.2.c
    have yf := (KEY.out _ HR2.out).2.2.2.f
    clear hz hn0
    go_wp2_with fail
    have HZ := Lib.hid (set6_box (KEY.out _ HR2.out).2.2.2 (k' := 0) (h' := 0) (t' := ⟨#[]⟩) (r1 := .slice none 0 0) (r2 := .slice none 0 0) (r3 := .slice none 0 0)).c
    refine bodyPost_ret (w := set6 w3 (w.heap.size + 1 + 1) (.int .i64 0) (.int .i64 0) (.string ⟨#[]⟩) (.slice none 0 0) (.slice none 0 0) (.slice none 0 0)) (v := .tuple #[.agg #[.int .i64 0, .int .i64 0, .string ⟨#[]⟩, .slice none 0 0, .slice none 0 0, .slice none 0 0], .int .i64 0]) ?_ rfl ?_
    · obtain ⟨y0, y1, y2, y3, y4, y5⟩ := HZ.out
      simp [results, Tryz.results25, go_sem, y0, y1, y2, y3, y4, y5]
    · exact ⟨_, _, _, _, _, _, _, .null, rfl, (KEY.out _ HR2.out).1.trans (below_set6 (by omega) _ _ _ _ _ _), jrep_null _ _, trivial, .inr ⟨rfl, (if_pos HN0.out).symm⟩⟩
  have hz2 : ((l.length : Int) == 0) = false := by rw [beq_eq_false_iff_ne]; omega
  have hpos : 0 < l.length := by omega
  clear hn0
  obtain ⟨bl, ol, cl, hv1, hSl, hatl⟩ := HL2.out.row (by omega)
  obtain ⟨bk, ok, ck, hv2, hSk, hatk⟩ := HK.out.row (by omega)
  simp only [Value.slice.injEq] at hv1 hv2
  obtain ⟨rfl, -, rfl⟩ := hv1
  obtain ⟨rfl, -, rfl⟩ := hv2
  have HATL := Lib.hid hatl
  have HATK := Lib.hid hatk
  clear hatl hatk
  have hblt := With.lt (fun b hb => Nat.lt_of_lt_of_le (HS.out b hb) (by omega)) HR2.out.size _ hSl
  have hbkt := With.lt (fun b hb => Nat.lt_of_lt_of_le (HS.out b hb) (by omega)) HR2.out.size _ hSk
  clear hSl hSk
  have HLN := Lib.hid (And.intro (fun (i : Nat) (h : i < l.length) => show i < (ordL l ks).length by rw [hlo]; exact h) (fun (i : Nat) (h : i < l.length) => show i < (ordL ks ks).length by rw [hko]; exact h))
  clear hlo hko
  have HLIM := Lib.hid (show l.length ≤ 1000000 from HP.out.lim)
  obtain ⟨m0, hm0⟩ : ∃ m0, m0 = l.length - 1 := ⟨_, rfl⟩
  obtain ⟨m1, hm1⟩ : ∃ m1, m1 = l.length - 2 := ⟨_, rfl⟩
  have hi0 : (l.length : Int) - 1 = (m0 : Int) := by omega
  have hw0 : Go.IntKind.wrap .i64 (m0 : Int) = (m0 : Int) := by have := HLIM.out; rw [IntKind.wrap_i64]; omega
  have hb0 : (m0 : Int) < (l.length : Int) := by omega
  have HM0 := Lib.hid hm0
  clear hm0
  obtain ⟨cc, hcc⟩ : ∃ cc, cc = (decide (1 < l.length) && (cmpJ ((ordL ks ks).getD (l.length - 1) .null) ((ordL ks ks).getD (l.length - 2) .null) == 0) && !(cmpJ ((ordL l ks).getD (l.length - 1) .null) ((ordL l ks).getD (l.length - 2) .null) == 0)) := ⟨_, rfl⟩
  have HCC := Lib.hid hcc
  clear hcc
  go_upto_region 25 with fail
  go_cut [166] (fun v wx => v = .bool cc ∧ Below w3.heap.size w3 wx)
  case first =>
    have HQ0 := Lib.hid (Below.refl w3.heap.size w3).drew
    by_cases hn1 : 1 < l.length
    · have hgt : (l.length : Int) > 1 := by omega
      have hi1 : (l.length : Int) - 2 = (m1 : Int) := by omega
      have hw1 : Go.IntKind.wrap .i64 (m1 : Int) = (m1 : Int) := by have := HLIM.out; rw [IntKind.wrap_i64]; omega
      have hb1 : (m1 : Int) < (l.length : Int) := by omega
      have HM1 := Lib.hid hm1
      clear hm1
      obtain ⟨xc0, xc1, xc2, xc3, xc4, xc5, X0, X1, X2, X3, X4, X5, xr⟩ := HATK.out m0 (HLN.out.2 _ (by have := HM0.out; omega))
      obtain ⟨xk, xh, xt, x1, x1n, x1m, x2, x2n, x2m, x3, x3n, x3m, rfl, rfl, rfl, rfl, rfl, rfl⟩ := xr.shape6
      rw [← getD_J] at xr
      obtain ⟨yc0, yc1, yc2, yc3, yc4, yc5, Y0, Y1, Y2, Y3, Y4, Y5, yr⟩ := HATK.out m1 (HLN.out.2 _ (by have := HM1.out; omega))
      obtain ⟨yk, yh, yt, y1, y1n, y1m, y2, y2n, y2m, y3, y3n, y3m, rfl, rfl, rfl, rfl, rfl, rfl⟩ := yr.shape6
      rw [← getD_J] at yr
      obtain ⟨uc0, uc1, uc2, uc3, uc4, uc5, U0, U1, U2, U3, U4, U5, ur⟩ := HATL.out m0 (HLN.out.1 _ (by have := HM0.out; omega))
      obtain ⟨uk, uh, ut, u1, u1n, u1m, u2, u2n, u2m, u3, u3n, u3m, rfl, rfl, rfl, rfl, rfl, rfl⟩ := ur.shape6
      rw [← getD_J] at ur
      obtain ⟨vc0, vc1, vc2, vc3, vc4, vc5, V0, V1, V2, V3, V4, V5, vr⟩ := HATL.out m1 (HLN.out.1 _ (by have := HM1.out; omega))
      obtain ⟨vk, vh, vt, v1, v1n, v1m, v2, v2n, v2m, v3, v3n, v3m, rfl, rfl, rfl, rfl, rfl, rfl⟩ := vr.shape6
      rw [← getD_J] at vr
      rw [HM0.out] at xr ur
      rw [HM1.out] at yr vr
      have HCELL : Hid (∀ wx, Below w3.heap.size w3 wx → (wx.cell? ⟨bk, ok + m0 * 6, none⟩ = some (.int .i64 xk) ∧ wx.cell? ⟨bk, ok + m0 * 6 + 1, none⟩ = some (.int .i64 xh) ∧ wx.cell? ⟨bk, ok + m0 * 6 + 2, none⟩ = some (.string xt) ∧ wx.cell? ⟨bk, ok + m0 * 6 + 3, none⟩ = some (.slice x1 x1n x1m) ∧ wx.cell? ⟨bk, ok + m0 * 6 + 4, none⟩ = some (.slice x2 x2n x2m) ∧ wx.cell? ⟨bk, ok + m0 * 6 + 5, none⟩ = some (.slice x3 x3n x3m)) ∧ (wx.cell? ⟨bk, ok + m1 * 6, none⟩ = some (.int .i64 yk) ∧ wx.cell? ⟨bk, ok + m1 * 6 + 1, none⟩ = some (.int .i64 yh) ∧ wx.cell? ⟨bk, ok + m1 * 6 + 2, none⟩ = some (.string yt) ∧ wx.cell? ⟨bk, ok + m1 * 6 + 3, none⟩ = some (.slice y1 y1n y1m) ∧ wx.cell? ⟨bk, ok + m1 * 6 + 4, none⟩ = some (.slice y2 y2n y2m) ∧ wx.cell? ⟨bk, ok + m1 * 6 + 5, none⟩ = some (.slice y3 y3n y3m)) ∧ (wx.cell? ⟨bl, ol + m0 * 6, none⟩ = some (.int .i64 uk) ∧ wx.cell? ⟨bl, ol + m0 * 6 + 1, none⟩ = some (.int .i64 uh) ∧ wx.cell? ⟨bl, ol + m0 * 6 + 2, none⟩ = some (.string ut) ∧ wx.cell? ⟨bl, ol + m0 * 6 + 3, none⟩ = some (.slice u1 u1n u1m) ∧ wx.cell? ⟨bl, ol + m0 * 6 + 4, none⟩ = some (.slice u2 u2n u2m) ∧ wx.cell? ⟨bl, ol + m0 * 6 + 5, none⟩ = some (.slice u3 u3n u3m)) ∧ wx.cell? ⟨bl, ol + m1 * 6, none⟩ = some (.int .i64 vk) ∧ wx.cell? ⟨bl, ol + m1 * 6 + 1, none⟩ = some (.int .i64 vh) ∧ wx.cell? ⟨bl, ol + m1 * 6 + 2, none⟩ = some (.string vt) ∧ wx.cell? ⟨bl, ol + m1 * 6 + 3, none⟩ = some (.slice v1 v1n v1m) ∧ wx.cell? ⟨bl, ol + m1 * 6 + 4, none⟩ = some (.slice v2 v2n v2m) ∧ wx.cell? ⟨bl, ol + m1 * 6 + 5, none⟩ = some (.slice v3 v3n v3m)) := Lib.hid fun wx hx => ⟨⟨(hx.cell hbkt).trans X0, (hx.cell hbkt).trans X1, (hx.cell hbkt).trans X2, (hx.cell hbkt).trans X3, (hx.cell hbkt).trans X4, (hx.cell hbkt).trans X5⟩, ⟨(hx.cell hbkt).trans Y0, (hx.cell hbkt).trans Y1, (hx.cell hbkt).trans Y2, (hx.cell hbkt).trans Y3, (hx.cell hbkt).trans Y4, (hx.cell hbkt).trans Y5⟩, ⟨(hx.cell hblt).trans U0, (hx.cell hblt).trans U1, (hx.cell hblt).trans U2, (hx.cell hblt).trans U3, (hx.cell hblt).trans U4, (hx.cell hblt).trans U5⟩, (hx.cell hblt).trans V0, (hx.cell hblt).trans V1, (hx.cell hblt).trans V2, (hx.cell hblt).trans V3, (hx.cell hblt).trans V4, (hx.cell hblt).trans V5⟩
      have hwl := With.lt (fun b hb => Nat.lt_of_lt_of_le (HS.out b hb) (by omega)) HR2.out.size
      have HSK := Lib.hid (fun wx (hx : Below w3.heap.size w3 wx) => Same_ok _ _ wx _ _ _ (getD_ok (ordL_oks HP.out.ok) _) (getD_ok (ordL_oks HP.out.ok) _) (lt_below hx hwl) (xr.keep (.of_below hx hwl) (fun _ h => h)) (yr.keep (.of_below hx hwl) (fun _ h => h)))
      have HSL := Lib.hid (fun wx (hx : Below w3.heap.size w3 wx) => Same_ok _ _ wx _ _ _ (getD_ok (ordL_oks HP.out.okl) _) (getD_ok (ordL_oks HP.out.okl) _) (lt_below hx hwl) (ur.keep (.of_below hx hwl) (fun _ h => h)) (vr.keep (.of_below hx hwl) (fun _ h => h)))
      clear xr yr ur vr hwl X0 X1 X2 X3 X4 X5 Y0 Y1 Y2 Y3 Y4 Y5 U0 U1 U2 U3 U4 U5 V0 V1 V2 V3 V4 V5 hn1
      generalize hd1 : (cmpJ ((ordL ks ks).getD _ .null) ((ordL ks ks).getD _ .null) == 0) = dd1 at HSK HCC
      generalize hd2 : (cmpJ ((ordL l ks).getD _ .null) ((ordL l ks).getD _ .null) == 0) = dd2 at HSL HCC
      have hcl : cc = (dd1 && !dd2) := by rw [HCC.out, decide_eq_true (show 1 < l.length by omega)]; rfl
      have HCL := Lib.hid hcl
      clear hd1 hd2 hcl
      cases dd1 with
      | false =>
        have HCC2 : Hid (cc = false) := Lib.hid (by rw [HCL.out]; rfl)
        refine wp_region_S (fun i => decide (28 ≤ i)) (fun w4 => Below w3.heap.size w3 w4) (fun _ => True) (by kernel_rfl) ?_
        refine wpAnyS_takeU 0 ⟨some 138, .move (.tmp 10), _, _, _, none⟩ (v := ?_) rfl (by kernel_rfl) (by kernel_rfl) (by kernel_rfl) (by kernel_rfl) (by kernel_rfl) (fun _ _ _ h => h) (Or.inl ⟨by rfl, ?_⟩) ⟨trivial, HQ0.out⟩ ?_
        rotate_left
        · (intro x hx; clear hx; go_simp; try with_reducible rfl)
        try simp only [Act.put, List.setIfInBounds_toArray, List.set_cons_zero, List.set_cons_succ]
        refine wpAnyS_takeU 1 ⟨some 139, .binOp .gtr 3 (.tmp 138) (.const (.int .i64 1)) 3, _, _, _, none⟩ (v := ?_) rfl (by kernel_rfl) (by kernel_rfl) (by kernel_rfl) (by kernel_rfl) (by kernel_rfl) (fun _ _ _ h => h) (Or.inl ⟨by rfl, ?_⟩) ⟨trivial, HQ0.out⟩ ?_
        rotate_left
        · (intro x hx; clear hx; go_simp; try with_reducible rfl)
        try simp only [Act.put, List.setIfInBounds_toArray, List.set_cons_zero, List.set_cons_succ]
        refine wpAnyS_takeU 2 ⟨some 140, .move (.tmp 139), _, _, _, none⟩ (v := ?_) rfl (by kernel_rfl) (by kernel_rfl) (by kernel_rfl) (by kernel_rfl) (by kernel_rfl) (fun _ _ _ h => h) (Or.inl ⟨by rfl, ?_⟩) ⟨trivial, HQ0.out⟩ ?_
        rotate_left
        · (intro x hx; clear hx; go_simp; try with_reducible rfl)
        try simp only [Act.put, List.setIfInBounds_toArray, List.set_cons_zero, List.set_cons_succ]
        refine wpAnyS_takeU 3 ⟨some 141, .move (.tmp 9), _, _, _, some (2, true)⟩ (v := ?_) rfl (by kernel_rfl) (by kernel_rfl) (by kernel_rfl) (by kernel_rfl) (by kernel_rfl) (fun _ _ _ h => h) (Or.inl ⟨by rfl, ?_⟩) ⟨trivial, HQ0.out⟩ ?_
        rotate_left
        · (intro x hx; clear hx; go_simp; try with_reducible rfl)
        try simp only [Act.put, List.setIfInBounds_toArray, List.set_cons_zero, List.set_cons_succ]
        refine wpAnyS_takeU 4 ⟨some 142, .move (.tmp 10), _, _, _, some (2, true)⟩ (v := ?_) rfl (by kernel_rfl) (by kernel_rfl) (by kernel_rfl) (by kernel_rfl) (by kernel_rfl) (fun _ _ _ h => h) (Or.inl ⟨by rfl, ?_⟩) ⟨trivial, HQ0.out⟩ ?_
        rotate_left
        · (intro x hx; clear hx; go_simp; try with_reducible rfl)
        try simp only [Act.put, List.setIfInBounds_toArray, List.set_cons_zero, List.set_cons_succ]
        refine wpAnyS_takeU 5 ⟨some 143, .binOp .sub 3 (.tmp 142) (.const (.int .i64 1)) 3, _, _, _, some (2, true)⟩ (v := ?_) rfl (by kernel_rfl) (by kernel_rfl) (by kernel_rfl) (by kernel_rfl) (by kernel_rfl) (fun _ _ _ h => h) (Or.inl ⟨by rfl, ?_⟩) ⟨trivial, HQ0.out⟩ ?_
        rotate_left
        · (intro x hx; clear hx; go_simp; try with_reducible rfl)
        try simp only [Act.put, List.setIfInBounds_toArray, List.set_cons_zero, List.set_cons_succ]
        refine wpAnyS_takeU 6 ⟨some 144, .indexAddr 23 (.tmp 141) (.tmp 143), _, _, _, some (2, true)⟩ (v := ?_) rfl (by kernel_rfl) (by kernel_rfl) (by kernel_rfl) (by kernel_rfl) (by kernel_rfl) (fun _ _ _ h => h) (Or.inl ⟨by rfl, ?_⟩) ⟨trivial, HQ0.out⟩ ?_
        rotate_left
        · (intro x hx; clear hx; go_simp; try with_reducible rfl)
        try simp only [Act.put, List.setIfInBounds_toArray, List.set_cons_zero, List.set_cons_succ]
        refine wpAnyS_takeU 7 ⟨some 145, .load 26 (.tmp 144), _, _, _, some (2, true)⟩ (v := ?_) rfl (by kernel_rfl) (by kernel_rfl) (by kernel_rfl) (by kernel_rfl) (by kernel_rfl) (fun _ _ _ h => h) (Or.inl ⟨by rfl, ?_⟩) ⟨trivial, HQ0.out⟩ ?_
        rotate_left
        · (intro x hx; obtain ⟨-, hs⟩ := hx; obtain ⟨⟨X0, X1, X2, X3, X4, X5⟩, ⟨Y0, Y1, Y2, Y3, Y4, Y5⟩, ⟨U0, U1, U2, U3, U4, U5⟩, V0, V1, V2, V3, V4, V5⟩ := HCELL.out _ hs; go_simp; try with_reducible rfl)
        try simp only [Act.put, List.setIfInBounds_toArray, List.set_cons_zero, List.set_cons_succ]
        refine wpAnyS_takeU 8 ⟨some 146, .move (.tmp 9), _, _, _, some (2, true)⟩ (v := ?_) rfl (by kernel_rfl) (by kernel_rfl) (by kernel_rfl) (by kernel_rfl) (by kernel_rfl) (fun _ _ _ h => h) (Or.inl ⟨by rfl, ?_⟩) ⟨trivial, HQ0.out⟩ ?_
        rotate_left
        · (intro x hx; clear hx; go_simp; try with_reducible rfl)
        try simp only [Act.put, List.setIfInBounds_toArray, List.set_cons_zero, List.set_cons_succ]
        refine wpAnyS_takeU 9 ⟨some 147, .move (.tmp 10), _, _, _, some (2, true)⟩ (v := ?_) rfl (by kernel_rfl) (by kernel_rfl) (by kernel_rfl) (by kernel_rfl) (by kernel_rfl) (fun _ _ _ h => h) (Or.inl ⟨by rfl, ?_⟩) ⟨trivial, HQ0.out⟩ ?_
        rotate_left
        · (intro x hx; clear hx; go_simp; try with_reducible rfl)
        try simp only [Act.put, List.setIfInBounds_toArray, List.set_cons_zero, List.set_cons_succ]
        refine wpAnyS_takeU 10 ⟨some 148, .binOp .sub 3 (.tmp 147) (.const (.int .i64 2)) 3, _, _, _, some (2, true)⟩ (v := ?_) rfl (by kernel_rfl) (by kernel_rfl) (by kernel_rfl) (by kernel_rfl) (by kernel_rfl) (fun _ _ _ h => h) (Or.inl ⟨by rfl, ?_⟩) ⟨trivial, HQ0.out⟩ ?_
        rotate_left
        · (intro x hx; clear hx; go_simp; try with_reducible rfl)
        try simp only [Act.put, List.setIfInBounds_toArray, List.set_cons_zero, List.set_cons_succ]
        refine wpAnyS_takeU 11 ⟨some 149, .indexAddr 23 (.tmp 146) (.tmp 148), _, _, _, some (2, true)⟩ (v := ?_) rfl (by kernel_rfl) (by kernel_rfl) (by kernel_rfl) (by kernel_rfl) (by kernel_rfl) (fun _ _ _ h => h) (Or.inl ⟨by rfl, ?_⟩) ⟨trivial, HQ0.out⟩ ?_
        rotate_left
        · (intro x hx; clear hx; go_simp; try with_reducible rfl)
        try simp only [Act.put, List.setIfInBounds_toArray, List.set_cons_zero, List.set_cons_succ]
        refine wpAnyS_takeU 12 ⟨some 150, .load 26 (.tmp 149), _, _, _, some (2, true)⟩ (v := ?_) rfl (by kernel_rfl) (by kernel_rfl) (by kernel_rfl) (by kernel_rfl) (by kernel_rfl) (fun _ _ _ h => h) (Or.inl ⟨by rfl, ?_⟩) ⟨trivial, HQ0.out⟩ ?_
        rotate_left
        · (intro x hx; obtain ⟨-, hs⟩ := hx; obtain ⟨⟨X0, X1, X2, X3, X4, X5⟩, ⟨Y0, Y1, Y2, Y3, Y4, Y5⟩, ⟨U0, U1, U2, U3, U4, U5⟩, V0, V1, V2, V3, V4, V5⟩ := HCELL.out _ hs; go_simp; try with_reducible rfl)
        try simp only [Act.put, List.setIfInBounds_toArray, List.set_cons_zero, List.set_cons_succ]
        refine wpAnyS_ready [13] (by kernel_rfl) (by simp) ?_
        refine AllReadyS.cons ⟨some 151, .call { callee := .value (.func 61), args := #[.tmp 145, .tmp 150], argTypes := #[26, 26] }, _, _, _, some (2, true)⟩ rfl (fun K hK => ?_) AllReadyS.nil
        go_simp
        go_at_call 61
        refine (HSK.out _ HQ0.out).mono ?_
        rintro e z4 ⟨rfl, hx⟩
        have HQ1 := Lib.hid (HQ0.out.trans (hx.mono HQ0.out.size))
        clear hx
        try go_simp
        refine hK _ _ trivial (fun _ _ => HQ1.out) ?_
        clear hK K
        try simp only [Act.put, List.setIfInBounds_toArray, List.set_cons_zero, List.set_cons_succ]
        refine wpAnyS_takeU 14 ⟨some 152, .pick (.tmp 140) (.tmp 151) (.const (.bool false)), _, _, _, none⟩ (v := ?_) rfl (by kernel_rfl) (by kernel_rfl) (by kernel_rfl) (by kernel_rfl) (by kernel_rfl) (fun _ _ _ h => h) (Or.inl ⟨by rfl, ?_⟩) ⟨trivial, HQ1.out⟩ ?_
        rotate_left
        · (intro x hx; clear hx; go_simp; try with_reducible rfl)
        try simp only [Act.put, List.setIfInBounds_toArray, List.set_cons_zero, List.set_cons_succ]
        refine wpAnyS_takeU 15 ⟨some 153, .move (.tmp 152), _, _, _, none⟩ (v := ?_) rfl (by kernel_rfl) (by kernel_rfl) (by kernel_rfl) (by kernel_rfl) (by kernel_rfl) (fun _ _ _ h => h) (Or.inl ⟨by rfl, ?_⟩) ⟨trivial, HQ1.out⟩ ?_
        rotate_left
        · (intro x hx; clear hx; go_simp; try with_reducible rfl)
        try simp only [Act.put, List.setIfInBounds_toArray, List.set_cons_zero, List.set_cons_succ]
        refine wpAnyS_takeU 16 ⟨some 154, .move (.tmp 8), _, _, _, some (15, true)⟩ (v := undef) rfl (by kernel_rfl) (by kernel_rfl) (by kernel_rfl) (by kernel_rfl) (by kernel_rfl) (fun _ _ _ h => h) (Or.inr ⟨by rfl, rfl⟩) ⟨trivial, HQ1.out⟩ ?_
        try simp only [Act.put, List.setIfInBounds_toArray, List.set_cons_zero, List.set_cons_succ]
        refine wpAnyS_takeU 17 ⟨some 155, .move (.tmp 10), _, _, _, some (15, true)⟩ (v := undef) rfl (by kernel_rfl) (by kernel_rfl) (by kernel_rfl) (by kernel_rfl) (by kernel_rfl) (fun _ _ _ h => h) (Or.inr ⟨by rfl, rfl⟩) ⟨trivial, HQ1.out⟩ ?_
        try simp only [Act.put, List.setIfInBounds_toArray, List.set_cons_zero, List.set_cons_succ]
        refine wpAnyS_takeU 18 ⟨some 156, .binOp .sub 3 (.tmp 155) (.const (.int .i64 1)) 3, _, _, _, some (15, true)⟩ (v := undef) rfl (by kernel_rfl) (by kernel_rfl) (by kernel_rfl) (by kernel_rfl) (by kernel_rfl) (fun _ _ _ h => h) (Or.inr ⟨by rfl, rfl⟩) ⟨trivial, HQ1.out⟩ ?_
        try simp only [Act.put, List.setIfInBounds_toArray, List.set_cons_zero, List.set_cons_succ]
        refine wpAnyS_takeU 19 ⟨some 157, .indexAddr 23 (.tmp 154) (.tmp 156), _, _, _, some (15, true)⟩ (v := undef) rfl (by kernel_rfl) (by kernel_rfl) (by kernel_rfl) (by kernel_rfl) (by kernel_rfl) (fun _ _ _ h => h) (Or.inr ⟨by rfl, rfl⟩) ⟨trivial, HQ1.out⟩ ?_
        try simp only [Act.put, List.setIfInBounds_toArray, List.set_cons_zero, List.set_cons_succ]
        refine wpAnyS_takeU 20 ⟨some 158, .load 26 (.tmp 157), _, _, _, some (15, true)⟩ (v := undef) rfl (by kernel_rfl) (by kernel_rfl) (by kernel_rfl) (by kernel_rfl) (by kernel_rfl) (fun _ _ _ h => h) (Or.inr ⟨by rfl, rfl⟩) ⟨trivial, HQ1.out⟩ ?_
        try simp only [Act.put, List.setIfInBounds_toArray, List.set_cons_zero, List.set_cons_succ]
        refine wpAnyS_takeU 21 ⟨some 159, .move (.tmp 8), _, _, _, some (15, true)⟩ (v := undef) rfl (by kernel_rfl) (by kernel_rfl) (by kernel_rfl) (by kernel_rfl) (by kernel_rfl) (fun _ _ _ h => h) (Or.inr ⟨by rfl, rfl⟩) ⟨trivial, HQ1.out⟩ ?_
        try simp only [Act.put, List.setIfInBounds_toArray, List.set_cons_zero, List.set_cons_succ]
        refine wpAnyS_takeU 22 ⟨some 160, .move (.tmp 10), _, _, _, some (15, true)⟩ (v := undef) rfl (by kernel_rfl) (by kernel_rfl) (by kernel_rfl) (by kernel_rfl) (by kernel_rfl) (fun _ _ _ h => h) (Or.inr ⟨by rfl, rfl⟩) ⟨trivial, HQ1.out⟩ ?_
        try simp only [Act.put, List.setIfInBounds_toArray, List.set_cons_zero, List.set_cons_succ]
        refine wpAnyS_takeU 23 ⟨some 161, .binOp .sub 3 (.tmp 160) (.const (.int .i64 2)) 3, _, _, _, some (15, true)⟩ (v := undef) rfl (by kernel_rfl) (by kernel_rfl) (by kernel_rfl) (by kernel_rfl) (by kernel_rfl) (fun _ _ _ h => h) (Or.inr ⟨by rfl, rfl⟩) ⟨trivial, HQ1.out⟩ ?_
        try simp only [Act.put, List.setIfInBounds_toArray, List.set_cons_zero, List.set_cons_succ]
        refine wpAnyS_takeU 24 ⟨some 162, .indexAddr 23 (.tmp 159) (.tmp 161), _, _, _, some (15, true)⟩ (v := undef) rfl (by kernel_rfl) (by kernel_rfl) (by kernel_rfl) (by kernel_rfl) (by kernel_rfl) (fun _ _ _ h => h) (Or.inr ⟨by rfl, rfl⟩) ⟨trivial, HQ1.out⟩ ?_
        try simp only [Act.put, List.setIfInBounds_toArray, List.set_cons_zero, List.set_cons_succ]
        refine wpAnyS_takeU 25 ⟨some 163, .load 26 (.tmp 162), _, _, _, some (15, true)⟩ (v := undef) rfl (by kernel_rfl) (by kernel_rfl) (by kernel_rfl) (by kernel_rfl) (by kernel_rfl) (fun _ _ _ h => h) (Or.inr ⟨by rfl, rfl⟩) ⟨trivial, HQ1.out⟩ ?_
        try simp only [Act.put, List.setIfInBounds_toArray, List.set_cons_zero, List.set_cons_succ]
        refine wpAnyS_ready [26] (by kernel_rfl) (by simp) ?_
        refine AllReadyS.cons ⟨some 164, .call { callee := .value (.func 61), args := #[.tmp 158, .tmp 163], argTypes := #[26, 26] }, _, _, _, some (15, true)⟩ rfl (fun K hK => ?_) AllReadyS.nil
        go_simp
        refine hK _ _ trivial (fun _ _ => HQ1.out) ?_
        clear hK K
        try simp only [Act.put, List.setIfInBounds_toArray, List.set_cons_zero, List.set_cons_succ]
        refine wpAnyS_takeU 27 ⟨some 165, .unOp .not 4 (.tmp 164), _, _, _, some (15, true)⟩ (v := undef) rfl (by kernel_rfl) (by kernel_rfl) (by kernel_rfl) (by kernel_rfl) (by kernel_rfl) (fun _ _ _ h => h) (Or.inr ⟨by rfl, rfl⟩) ⟨trivial, HQ1.out⟩ ?_
        try simp only [Act.put, List.setIfInBounds_toArray, List.set_cons_zero, List.set_cons_succ]
        refine wpAnyS_rest 28 (fun _ => trivial) rfl (by kernel_rfl) (by kernel_rfl) ?_
        simp only [List.drop_succ_cons, List.drop_zero]
        go_wp2_with fail
        go_meet
        exact ⟨by rw [HCC2.out], HQ1.out⟩
      | true =>
        have HCC2 : Hid (cc = !dd2) := Lib.hid (by rw [HCL.out]; rfl)
        refine wp_region_S (fun i => decide (28 ≤ i)) (fun w4 => Below w3.heap.size w3 w4) (fun _ => True) (by kernel_rfl) ?_
        refine wpAnyS_takeU 0 ⟨some 138, .move (.tmp 10), _, _, _, none⟩ (v := ?_) rfl (by kernel_rfl) (by kernel_rfl) (by kernel_rfl) (by kernel_rfl) (by kernel_rfl) (fun _ _ _ h => h) (Or.inl ⟨by rfl, ?_⟩) ⟨trivial, HQ0.out⟩ ?_
        rotate_left
        · (intro x hx; clear hx; go_simp; try with_reducible rfl)
        try simp only [Act.put, List.setIfInBounds_toArray, List.set_cons_zero, List.set_cons_succ]
        refine wpAnyS_takeU 1 ⟨some 139, .binOp .gtr 3 (.tmp 138) (.const (.int .i64 1)) 3, _, _, _, none⟩ (v := ?_) rfl (by kernel_rfl) (by kernel_rfl) (by kernel_rfl) (by kernel_rfl) (by kernel_rfl) (fun _ _ _ h => h) (Or.inl ⟨by rfl, ?_⟩) ⟨trivial, HQ0.out⟩ ?_
        rotate_left
        · (intro x hx; clear hx; go_simp; try with_reducible rfl)
        try simp only [Act.put, List.setIfInBounds_toArray, List.set_cons_zero, List.set_cons_succ]
        refine wpAnyS_takeU 2 ⟨some 140, .move (.tmp 139), _, _, _, none⟩ (v := ?_) rfl (by kernel_rfl) (by kernel_rfl) (by kernel_rfl) (by kernel_rfl) (by kernel_rfl) (fun _ _ _ h => h) (Or.inl ⟨by rfl, ?_⟩) ⟨trivial, HQ0.out⟩ ?_
        rotate_left
        · (intro x hx; clear hx; go_simp; try with_reducible rfl)
        try simp only [Act.put, List.setIfInBounds_toArray, List.set_cons_zero, List.set_cons_succ]
        refine wpAnyS_takeU 3 ⟨some 141, .move (.tmp 9), _, _, _, some (2, true)⟩ (v := ?_) rfl (by kernel_rfl) (by kernel_rfl) (by kernel_rfl) (by kernel_rfl) (by kernel_rfl) (fun _ _ _ h => h) (Or.inl ⟨by rfl, ?_⟩) ⟨trivial, HQ0.out⟩ ?_
        rotate_left
        · (intro x hx; clear hx; go_simp; try with_reducible rfl)
        try simp only [Act.put, List.setIfInBounds_toArray, List.set_cons_zero, List.set_cons_succ]
        refine wpAnyS_takeU 4 ⟨some 142, .move (.tmp 10), _, _, _, some (2, true)⟩ (v := ?_) rfl (by kernel_rfl) (by kernel_rfl) (by kernel_rfl) (by kernel_rfl) (by kernel_rfl) (fun _ _ _ h => h) (Or.inl ⟨by rfl, ?_⟩) ⟨trivial, HQ0.out⟩ ?_
        rotate_left
        · (intro x hx; clear hx; go_simp; try with_reducible rfl)
        try simp only [Act.put, List.setIfInBounds_toArray, List.set_cons_zero, List.set_cons_succ]
        refine wpAnyS_takeU 5 ⟨some 143, .binOp .sub 3 (.tmp 142) (.const (.int .i64 1)) 3, _, _, _, some (2, true)⟩ (v := ?_) rfl (by kernel_rfl) (by kernel_rfl) (by kernel_rfl) (by kernel_rfl) (by kernel_rfl) (fun _ _ _ h => h) (Or.inl ⟨by rfl, ?_⟩) ⟨trivial, HQ0.out⟩ ?_
        rotate_left
        · (intro x hx; clear hx; go_simp; try with_reducible rfl)
        try simp only [Act.put, List.setIfInBounds_toArray, List.set_cons_zero, List.set_cons_succ]
        refine wpAnyS_takeU 6 ⟨some 144, .indexAddr 23 (.tmp 141) (.tmp 143), _, _, _, some (2, true)⟩ (v := ?_) rfl (by kernel_rfl) (by kernel_rfl) (by kernel_rfl) (by kernel_rfl) (by kernel_rfl) (fun _ _ _ h => h) (Or.inl ⟨by rfl, ?_⟩) ⟨trivial, HQ0.out⟩ ?_
        rotate_left
        · (intro x hx; clear hx; go_simp; try with_reducible rfl)
        try simp only [Act.put, List.setIfInBounds_toArray, List.set_cons_zero, List.set_cons_succ]
        refine wpAnyS_takeU 7 ⟨some 145, .load 26 (.tmp 144), _, _, _, some (2, true)⟩ (v := ?_) rfl (by kernel_rfl) (by kernel_rfl) (by kernel_rfl) (by kernel_rfl) (by kernel_rfl) (fun _ _ _ h => h) (Or.inl ⟨by rfl, ?_⟩) ⟨trivial, HQ0.out⟩ ?_
        rotate_left
        · (intro x hx; obtain ⟨-, hs⟩ := hx; obtain ⟨⟨X0, X1, X2, X3, X4, X5⟩, ⟨Y0, Y1, Y2, Y3, Y4, Y5⟩, ⟨U0, U1, U2, U3, U4, U5⟩, V0, V1, V2, V3, V4, V5⟩ := HCELL.out _ hs; go_simp; try with_reducible rfl)
        try simp only [Act.put, List.setIfInBounds_toArray, List.set_cons_zero, List.set_cons_succ]
        refine wpAnyS_takeU 8 ⟨some 146, .move (.tmp 9), _, _, _, some (2, true)⟩ (v := ?_) rfl (by kernel_rfl) (by kernel_rfl) (by kernel_rfl) (by kernel_rfl) (by kernel_rfl) (fun _ _ _ h => h) (Or.inl ⟨by rfl, ?_⟩) ⟨trivial, HQ0.out⟩ ?_
        rotate_left
        · (intro x hx; clear hx; go_simp; try with_reducible rfl)
        try simp only [Act.put, List.setIfInBounds_toArray, List.set_cons_zero, List.set_cons_succ]
        refine wpAnyS_takeU 9 ⟨some 147, .move (.tmp 10), _, _, _, some (2, true)⟩ (v := ?_) rfl (by kernel_rfl) (by kernel_rfl) (by kernel_rfl) (by kernel_rfl) (by kernel_rfl) (fun _ _ _ h => h) (Or.inl ⟨by rfl, ?_⟩) ⟨trivial, HQ0.out⟩ ?_
        rotate_left
        · (intro x hx; clear hx; go_simp; try with_reducible rfl)
        try simp only [Act.put, List.setIfInBounds_toArray, List.set_cons_zero, List.set_cons_succ]
        refine wpAnyS_takeU 10 ⟨some 148, .binOp .sub 3 (.tmp 147) (.const (.int .i64 2)) 3, _, _, _, some (2, true)⟩ (v := ?_) rfl (by kernel_rfl) (by kernel_rfl) (by kernel_rfl) (by kernel_rfl) (by kernel_rfl) (fun _ _ _ h => h) (Or.inl ⟨by rfl, ?_⟩) ⟨trivial, HQ0.out⟩ ?_
        rotate_left
        · (intro x hx; clear hx; go_simp; try with_reducible rfl)
        try simp only [Act.put, List.setIfInBounds_toArray, List.set_cons_zero, List.set_cons_succ]
        refine wpAnyS_takeU 11 ⟨some 149, .indexAddr 23 (.tmp 146) (.tmp 148), _, _, _, some (2, true)⟩ (v := ?_) rfl (by kernel_rfl) (by kernel_rfl) (by kernel_rfl) (by kernel_rfl) (by kernel_rfl) (fun _ _ _ h => h) (Or.inl ⟨by rfl, ?_⟩) ⟨trivial, HQ0.out⟩ ?_
        rotate_left
        · (intro x hx; clear hx; go_simp; try with_reducible rfl)
        try simp only [Act.put, List.setIfInBounds_toArray, List.set_cons_zero, List.set_cons_succ]
        refine wpAnyS_takeU 12 ⟨some 150, .load 26 (.tmp 149), _, _, _, some (2, true)⟩ (v := ?_) rfl (by kernel_rfl) (by kernel_rfl) (by kernel_rfl) (by kernel_rfl) (by kernel_rfl) (fun _ _ _ h => h) (Or.inl ⟨by rfl, ?_⟩) ⟨trivial, HQ0.out⟩ ?_
        rotate_left
        · (intro x hx; obtain ⟨-, hs⟩ := hx; obtain ⟨⟨X0, X1, X2, X3, X4, X5⟩, ⟨Y0, Y1, Y2, Y3, Y4, Y5⟩, ⟨U0, U1, U2, U3, U4, U5⟩, V0, V1, V2, V3, V4, V5⟩ := HCELL.out _ hs; go_simp; try with_reducible rfl)
        try simp only [Act.put, List.setIfInBounds_toArray, List.set_cons_zero, List.set_cons_succ]
        refine wpAnyS_ready [13] (by kernel_rfl) (by simp) ?_
        refine AllReadyS.cons ⟨some 151, .call { callee := .value (.func 61), args := #[.tmp 145, .tmp 150], argTypes := #[26, 26] }, _, _, _, some (2, true)⟩ rfl (fun K hK => ?_) AllReadyS.nil
        go_simp
        go_at_call 61
        refine (HSK.out _ HQ0.out).mono ?_
        rintro e z4 ⟨rfl, hx⟩
        have HQ1 := Lib.hid (HQ0.out.trans (hx.mono HQ0.out.size))
        clear hx
        try go_simp
        refine hK _ _ trivial (fun _ _ => HQ1.out) ?_
        clear hK K
        try simp only [Act.put, List.setIfInBounds_toArray, List.set_cons_zero, List.set_cons_succ]
        refine wpAnyS_takeU 14 ⟨some 152, .pick (.tmp 140) (.tmp 151) (.const (.bool false)), _, _, _, none⟩ (v := ?_) rfl (by kernel_rfl) (by kernel_rfl) (by kernel_rfl) (by kernel_rfl) (by kernel_rfl) (fun _ _ _ h => h) (Or.inl ⟨by rfl, ?_⟩) ⟨trivial, HQ1.out⟩ ?_
        rotate_left
        · (intro x hx; clear hx; go_simp; try with_reducible rfl)
        try simp only [Act.put, List.setIfInBounds_toArray, List.set_cons_zero, List.set_cons_succ]
        refine wpAnyS_takeU 15 ⟨some 153, .move (.tmp 152), _, _, _, none⟩ (v := ?_) rfl (by kernel_rfl) (by kernel_rfl) (by kernel_rfl) (by kernel_rfl) (by kernel_rfl) (fun _ _ _ h => h) (Or.inl ⟨by rfl, ?_⟩) ⟨trivial, HQ1.out⟩ ?_
        rotate_left
        · (intro x hx; clear hx; go_simp; try with_reducible rfl)
        try simp only [Act.put, List.setIfInBounds_toArray, List.set_cons_zero, List.set_cons_succ]
        refine wpAnyS_takeU 16 ⟨some 154, .move (.tmp 8), _, _, _, some (15, true)⟩ (v := ?_) rfl (by kernel_rfl) (by kernel_rfl) (by kernel_rfl) (by kernel_rfl) (by kernel_rfl) (fun _ _ _ h => h) (Or.inl ⟨by rfl, ?_⟩) ⟨trivial, HQ1.out⟩ ?_
        rotate_left
        · (intro x hx; clear hx; go_simp; try with_reducible rfl)
        try simp only [Act.put, List.setIfInBounds_toArray, List.set_cons_zero, List.set_cons_succ]
        refine wpAnyS_takeU 17 ⟨some 155, .move (.tmp 10), _, _, _, some (15, true)⟩ (v := ?_) rfl (by kernel_rfl) (by kernel_rfl) (by kernel_rfl) (by kernel_rfl) (by kernel_rfl) (fun _ _ _ h => h) (Or.inl ⟨by rfl, ?_⟩) ⟨trivial, HQ1.out⟩ ?_
        rotate_left
        · (intro x hx; clear hx; go_simp; try with_reducible rfl)
        try simp only [Act.put, List.setIfInBounds_toArray, List.set_cons_zero, List.set_cons_succ]
        refine wpAnyS_takeU 18 ⟨some 156, .binOp .sub 3 (.tmp 155) (.const (.int .i64 1)) 3, _, _, _, some (15, true)⟩ (v := ?_) rfl (by kernel_rfl) (by kernel_rfl) (by kernel_rfl) (by kernel_rfl) (by kernel_rfl) (fun _ _ _ h => h) (Or.inl ⟨by rfl, ?_⟩) ⟨trivial, HQ1.out⟩ ?_
        rotate_left
        · (intro x hx; clear hx; go_simp; try with_reducible rfl)
        try simp only [Act.put, List.setIfInBounds_toArray, List.set_cons_zero, List.set_cons_succ]
        refine wpAnyS_takeU 19 ⟨some 157, .indexAddr 23 (.tmp 154) (.tmp 156), _, _, _, some (15, true)⟩ (v := ?_) rfl (by kernel_rfl) (by kernel_rfl) (by kernel_rfl) (by kernel_rfl) (by kernel_rfl) (fun _ _ _ h => h) (Or.inl ⟨by rfl, ?_⟩) ⟨trivial, HQ1.out⟩ ?_
        rotate_left
        · (intro x hx; clear hx; go_simp; try with_reducible rfl)
        try simp only [Act.put, List.setIfInBounds_toArray, List.set_cons_zero, List.set_cons_succ]
        refine wpAnyS_takeU 20 ⟨some 158, .load 26 (.tmp 157), _, _, _, some (15, true)⟩ (v := ?_) rfl (by kernel_rfl) (by kernel_rfl) (by kernel_rfl) (by kernel_rfl) (by kernel_rfl) (fun _ _ _ h => h) (Or.inl ⟨by rfl, ?_⟩) ⟨trivial, HQ1.out⟩ ?_
        rotate_left
        · (intro x hx; obtain ⟨-, hs⟩ := hx; obtain ⟨⟨X0, X1, X2, X3, X4, X5⟩, ⟨Y0, Y1, Y2, Y3, Y4, Y5⟩, ⟨U0, U1, U2, U3, U4, U5⟩, V0, V1, V2, V3, V4, V5⟩ := HCELL.out _ hs; go_simp; try with_reducible rfl)
        try simp only [Act.put, List.setIfInBounds_toArray, List.set_cons_zero, List.set_cons_succ]
        refine wpAnyS_takeU 21 ⟨some 159, .move (.tmp 8), _, _, _, some (15, true)⟩ (v := ?_) rfl (by kernel_rfl) (by kernel_rfl) (by kernel_rfl) (by kernel_rfl) (by kernel_rfl) (fun _ _ _ h => h) (Or.inl ⟨by rfl, ?_⟩) ⟨trivial, HQ1.out⟩ ?_
        rotate_left
        · (intro x hx; clear hx; go_simp; try with_reducible rfl)
        try simp only [Act.put, List.setIfInBounds_toArray, List.set_cons_zero, List.set_cons_succ]
        refine wpAnyS_takeU 22 ⟨some 160, .move (.tmp 10), _, _, _, some (15, true)⟩ (v := ?_) rfl (by kernel_rfl) (by kernel_rfl) (by kernel_rfl) (by kernel_rfl) (by kernel_rfl) (fun _ _ _ h => h) (Or.inl ⟨by rfl, ?_⟩) ⟨trivial, HQ1.out⟩ ?_
        rotate_left
        · (intro x hx; clear hx; go_simp; try with_reducible rfl)
        try simp only [Act.put, List.setIfInBounds_toArray, List.set_cons_zero, List.set_cons_succ]
        refine wpAnyS_takeU 23 ⟨some 161, .binOp .sub 3 (.tmp 160) (.const (.int .i64 2)) 3, _, _, _, some (15, true)⟩ (v := ?_) rfl (by kernel_rfl) (by kernel_rfl) (by kernel_rfl) (by kernel_rfl) (by kernel_rfl) (fun _ _ _ h => h) (Or.inl ⟨by rfl, ?_⟩) ⟨trivial, HQ1.out⟩ ?_
        rotate_left
        · (intro x hx; clear hx; go_simp; try with_reducible rfl)
        try simp only [Act.put, List.setIfInBounds_toArray, List.set_cons_zero, List.set_cons_succ]
        refine wpAnyS_takeU 24 ⟨some 162, .indexAddr 23 (.tmp 159) (.tmp 161), _, _, _, some (15, true)⟩ (v := ?_) rfl (by kernel_rfl) (by kernel_rfl) (by kernel_rfl) (by kernel_rfl) (by kernel_rfl) (fun _ _ _ h => h) (Or.inl ⟨by rfl, ?_⟩) ⟨trivial, HQ1.out⟩ ?_
        rotate_left
        · (intro x hx; clear hx; go_simp; try with_reducible rfl)
        try simp only [Act.put, List.setIfInBounds_toArray, List.set_cons_zero, List.set_cons_succ]
        refine wpAnyS_takeU 25 ⟨some 163, .load 26 (.tmp 162), _, _, _, some (15, true)⟩ (v := ?_) rfl (by kernel_rfl) (by kernel_rfl) (by kernel_rfl) (by kernel_rfl) (by kernel_rfl) (fun _ _ _ h => h) (Or.inl ⟨by rfl, ?_⟩) ⟨trivial, HQ1.out⟩ ?_
        rotate_left
        · (intro x hx; obtain ⟨-, hs⟩ := hx; obtain ⟨⟨X0, X1, X2, X3, X4, X5⟩, ⟨Y0, Y1, Y2, Y3, Y4, Y5⟩, ⟨U0, U1, U2, U3, U4, U5⟩, V0, V1, V2, V3, V4, V5⟩ := HCELL.out _ hs; go_simp; try with_reducible rfl)
        try simp only [Act.put, List.setIfInBounds_toArray, List.set_cons_zero, List.set_cons_succ]
        refine wpAnyS_ready [26] (by kernel_rfl) (by simp) ?_
        refine AllReadyS.cons ⟨some 164, .call { callee := .value (.func 61), args := #[.tmp 158, .tmp 163], argTypes := #[26, 26] }, _, _, _, some (15, true)⟩ rfl (fun K hK => ?_) AllReadyS.nil
        go_simp
        go_at_call 61
        refine (HSL.out _ HQ1.out).mono ?_
        rintro e z5 ⟨rfl, hx⟩
        have HQ2 := Lib.hid (HQ1.out.trans (hx.mono HQ1.out.size))
        clear hx
        try go_simp
        refine hK _ _ trivial (fun _ _ => HQ2.out) ?_
        clear hK K
        try simp only [Act.put, List.setIfInBounds_toArray, List.set_cons_zero, List.set_cons_succ]
        refine wpAnyS_takeU 27 ⟨some 165, .unOp .not 4 (.tmp 164), _, _, _, some (15, true)⟩ (v := ?_) rfl (by kernel_rfl) (by kernel_rfl) (by kernel_rfl) (by kernel_rfl) (by kernel_rfl) (fun _ _ _ h => h) (Or.inl ⟨by rfl, ?_⟩) ⟨trivial, HQ2.out⟩ ?_
        rotate_left
        · (intro x hx; clear hx; go_simp; try with_reducible rfl)
        try simp only [Act.put, List.setIfInBounds_toArray, List.set_cons_zero, List.set_cons_succ]
        refine wpAnyS_rest 28 (fun _ => trivial) rfl (by kernel_rfl) (by kernel_rfl) ?_
        simp only [List.drop_succ_cons, List.drop_zero]
        go_wp2_with fail
        go_meet
        exact ⟨by rw [HCC2.out], HQ2.out⟩
    · have hgt : ¬ (l.length : Int) > 1 := by omega
      have HCC2 : Hid (cc = false) := Lib.hid (by rw [HCC.out, decide_eq_false hn1]; rfl)
      clear hn1
      refine wp_region_S (fun i => decide (28 ≤ i)) (fun w4 => Below w3.heap.size w3 w4) (fun _ => True) (by kernel_rfl) ?_
      refine wpAnyS_takeU 0 ⟨some 138, .move (.tmp 10), _, _, _, none⟩ (v := ?_) rfl (by kernel_rfl) (by kernel_rfl) (by kernel_rfl) (by kernel_rfl) (by kernel_rfl) (fun _ _ _ h => h) (Or.inl ⟨by rfl, ?_⟩) ⟨trivial, HQ0.out⟩ ?_
      rotate_left
      · (intro x hx; clear hx; go_simp; try with_reducible rfl)
      try simp only [Act.put, List.setIfInBounds_toArray, List.set_cons_zero, List.set_cons_succ]
      refine wpAnyS_takeU 1 ⟨some 139, .binOp .gtr 3 (.tmp 138) (.const (.int .i64 1)) 3, _, _, _, none⟩ (v := ?_) rfl (by kernel_rfl) (by kernel_rfl) (by kernel_rfl) (by kernel_rfl) (by kernel_rfl) (fun _ _ _ h => h) (Or.inl ⟨by rfl, ?_⟩) ⟨trivial, HQ0.out⟩ ?_
      rotate_left
      · (intro x hx; clear hx; go_simp; try with_reducible rfl)
      try simp only [Act.put, List.setIfInBounds_toArray, List.set_cons_zero, List.set_cons_succ]
      refine wpAnyS_takeU 2 ⟨some 140, .move (.tmp 139), _, _, _, none⟩ (v := ?_) rfl (by kernel_rfl) (by kernel_rfl) (by kernel_rfl) (by kernel_rfl) (by kernel_rfl) (fun _ _ _ h => h) (Or.inl ⟨by rfl, ?_⟩) ⟨trivial, HQ0.out⟩ ?_
      rotate_left
      · (intro x hx; clear hx; go_simp; try with_reducible rfl)
      try simp only [Act.put, List.setIfInBounds_toArray, List.set_cons_zero, List.set_cons_succ]
      refine wpAnyS_takeU 3 ⟨some 141, .move (.tmp 9), _, _, _, some (2, true)⟩ (v := undef) rfl (by kernel_rfl) (by kernel_rfl) (by kernel_rfl) (by kernel_rfl) (by kernel_rfl) (fun _ _ _ h => h) (Or.inr ⟨by rfl, rfl⟩) ⟨trivial, HQ0.out⟩ ?_
      try simp only [Act.put, List.setIfInBounds_toArray, List.set_cons_zero, List.set_cons_succ]
      refine wpAnyS_takeU 4 ⟨some 142, .move (.tmp 10), _, _, _, some (2, true)⟩ (v := undef) rfl (by kernel_rfl) (by kernel_rfl) (by kernel_rfl) (by kernel_rfl) (by kernel_rfl) (fun _ _ _ h => h) (Or.inr ⟨by rfl, rfl⟩) ⟨trivial, HQ0.out⟩ ?_
      try simp only [Act.put, List.setIfInBounds_toArray, List.set_cons_zero, List.set_cons_succ]
      refine wpAnyS_takeU 5 ⟨some 143, .binOp .sub 3 (.tmp 142) (.const (.int .i64 1)) 3, _, _, _, some (2, true)⟩ (v := undef) rfl (by kernel_rfl) (by kernel_rfl) (by kernel_rfl) (by kernel_rfl) (by kernel_rfl) (fun _ _ _ h => h) (Or.inr ⟨by rfl, rfl⟩) ⟨trivial, HQ0.out⟩ ?_
      try simp only [Act.put, List.setIfInBounds_toArray, List.set_cons_zero, List.set_cons_succ]
      refine wpAnyS_takeU 6 ⟨some 144, .indexAddr 23 (.tmp 141) (.tmp 143), _, _, _, some (2, true)⟩ (v := undef) rfl (by kernel_rfl) (by kernel_rfl) (by kernel_rfl) (by kernel_rfl) (by kernel_rfl) (fun _ _ _ h => h) (Or.inr ⟨by rfl, rfl⟩) ⟨trivial, HQ0.out⟩ ?_
      try simp only [Act.put, List.setIfInBounds_toArray, List.set_cons_zero, List.set_cons_succ]
      refine wpAnyS_takeU 7 ⟨some 145, .load 26 (.tmp 144), _, _, _, some (2, true)⟩ (v := undef) rfl (by kernel_rfl) (by kernel_rfl) (by kernel_rfl) (by kernel_rfl) (by kernel_rfl) (fun _ _ _ h => h) (Or.inr ⟨by rfl, rfl⟩) ⟨trivial, HQ0.out⟩ ?_
      try simp only [Act.put, List.setIfInBounds_toArray, List.set_cons_zero, List.set_cons_succ]
      refine wpAnyS_takeU 8 ⟨some 146, .move (.tmp 9), _, _, _, some (2, true)⟩ (v := undef) rfl (by kernel_rfl) (by kernel_rfl) (by kernel_rfl) (by kernel_rfl) (by kernel_rfl) (fun _ _ _ h => h) (Or.inr ⟨by rfl, rfl⟩) ⟨trivial, HQ0.out⟩ ?_
      try simp only [Act.put, List.setIfInBounds_toArray, List.set_cons_zero, List.set_cons_succ]
      refine wpAnyS_takeU 9 ⟨some 147, .move (.tmp 10), _, _, _, some (2, true)⟩ (v := undef) rfl (by kernel_rfl) (by kernel_rfl) (by kernel_rfl) (by kernel_rfl) (by kernel_rfl) (fun _ _ _ h => h) (Or.inr ⟨by rfl, rfl⟩) ⟨trivial, HQ0.out⟩ ?_
      try simp only [Act.put, List.setIfInBounds_toArray, List.set_cons_zero, List.set_cons_succ]
      refine wpAnyS_takeU 10 ⟨some 148, .binOp .sub 3 (.tmp 147) (.const (.int .i64 2)) 3, _, _, _, some (2, true)⟩ (v := undef) rfl (by kernel_rfl) (by kernel_rfl) (by kernel_rfl) (by kernel_rfl) (by kernel_rfl) (fun _ _ _ h => h) (Or.inr ⟨by rfl, rfl⟩) ⟨trivial, HQ0.out⟩ ?_
      try simp only [Act.put, List.setIfInBounds_toArray, List.set_cons_zero, List.set_cons_succ]
      refine wpAnyS_takeU 11 ⟨some 149, .indexAddr 23 (.tmp 146) (.tmp 148), _, _, _, some (2, true)⟩ (v := undef) rfl (by kernel_rfl) (by kernel_rfl) (by kernel_rfl) (by kernel_rfl) (by kernel_rfl) (fun _ _ _ h => h) (Or.inr ⟨by rfl, rfl⟩) ⟨trivial, HQ0.out⟩ ?_
      try simp only [Act.put, List.setIfInBounds_toArray, List.set_cons_zero, List.set_cons_succ]
      refine wpAnyS_takeU 12 ⟨some 150, .load 26 (.tmp 149), _, _, _, some (2, true)⟩ (v := undef) rfl (by kernel_rfl) (by kernel_rfl) (by kernel_rfl) (by kernel_rfl) (by kernel_rfl) (fun _ _ _ h => h) (Or.inr ⟨by rfl, rfl⟩) ⟨trivial, HQ0.out⟩ ?_
      try simp only [Act.put, List.setIfInBounds_toArray, List.set_cons_zero, List.set_cons_succ]
      refine wpAnyS_ready [13] (by kernel_rfl) (by simp) ?_
      refine AllReadyS.cons ⟨some 151, .call { callee := .value (.func 61), args := #[.tmp 145, .tmp 150], argTypes := #[26, 26] }, _, _, _, some (2, true)⟩ rfl (fun K hK => ?_) AllReadyS.nil
      go_simp
      refine hK _ _ trivial (fun _ _ => HQ0.out) ?_
      clear hK K
      try simp only [Act.put, List.setIfInBounds_toArray, List.set_cons_zero, List.set_cons_succ]
      refine wpAnyS_takeU 14 ⟨some 152, .pick (.tmp 140) (.tmp 151) (.const (.bool false)), _, _, _, none⟩ (v := ?_) rfl (by kernel_rfl) (by kernel_rfl) (by kernel_rfl) (by kernel_rfl) (by kernel_rfl) (fun _ _ _ h => h) (Or.inl ⟨by rfl, ?_⟩) ⟨trivial, HQ0.out⟩ ?_
      rotate_left
      · (intro x hx; clear hx; go_simp; try with_reducible rfl)
      try simp only [Act.put, List.setIfInBounds_toArray, List.set_cons_zero, List.set_cons_succ]
      refine wpAnyS_takeU 15 ⟨some 153, .move (.tmp 152), _, _, _, none⟩ (v := ?_) rfl (by kernel_rfl) (by kernel_rfl) (by kernel_rfl) (by kernel_rfl) (by kernel_rfl) (fun _ _ _ h => h) (Or.inl ⟨by rfl, ?_⟩) ⟨trivial, HQ0.out⟩ ?_
      rotate_left
      · (intro x hx; clear hx; go_simp; try with_reducible rfl)
      try simp only [Act.put, List.setIfInBounds_toArray, List.set_cons_zero, List.set_cons_succ]
      refine wpAnyS_takeU 16 ⟨some 154, .move (.tmp 8), _, _, _, some (15, true)⟩ (v := undef) rfl (by kernel_rfl) (by kernel_rfl) (by kernel_rfl) (by kernel_rfl) (by kernel_rfl) (fun _ _ _ h => h) (Or.inr ⟨by rfl, rfl⟩) ⟨trivial, HQ0.out⟩ ?_
      try simp only [Act.put, List.setIfInBounds_toArray, List.set_cons_zero, List.set_cons_succ]
      refine wpAnyS_takeU 17 ⟨some 155, .move (.tmp 10), _, _, _, some (15, true)⟩ (v := undef) rfl (by kernel_rfl) (by kernel_rfl) (by kernel_rfl) (by kernel_rfl) (by kernel_rfl) (fun _ _ _ h => h) (Or.inr ⟨by rfl, rfl⟩) ⟨trivial, HQ0.out⟩ ?_
      try simp only [Act.put, List.setIfInBounds_toArray, List.set_cons_zero, List.set_cons_succ]
      refine wpAnyS_takeU 18 ⟨some 156, .binOp .sub 3 (.tmp 155) (.const (.int .i64 1)) 3, _, _, _, some (15, true)⟩ (v := undef) rfl (by kernel_rfl) (by kernel_rfl) (by kernel_rfl) (by kernel_rfl) (by kernel_rfl) (fun _ _ _ h => h) (Or.inr ⟨by rfl, rfl⟩) ⟨trivial, HQ0.out⟩ ?_
      try simp only [Act.put, List.setIfInBounds_toArray, List.set_cons_zero, List.set_cons_succ]
      refine wpAnyS_takeU 19 ⟨some 157, .indexAddr 23 (.tmp 154) (.tmp 156), _, _, _, some (15, true)⟩ (v := undef) rfl (by kernel_rfl) (by kernel_rfl) (by kernel_rfl) (by kernel_rfl) (by kernel_rfl) (fun _ _ _ h => h) (Or.inr ⟨by rfl, rfl⟩) ⟨trivial, HQ0.out⟩ ?_
      try simp only [Act.put, List.setIfInBounds_toArray, List.set_cons_zero, List.set_cons_succ]
      refine wpAnyS_takeU 20 ⟨some 158, .load 26 (.tmp 157), _, _, _, some (15, true)⟩ (v := undef) rfl (by kernel_rfl) (by kernel_rfl) (by kernel_rfl) (by kernel_rfl) (by kernel_rfl) (fun _ _ _ h => h) (Or.inr ⟨by rfl, rfl⟩) ⟨trivial, HQ0.out⟩ ?_
      try simp only [Act.put, List.setIfInBounds_toArray, List.set_cons_zero, List.set_cons_succ]
      refine wpAnyS_takeU 21 ⟨some 159, .move (.tmp 8), _, _, _, some (15, true)⟩ (v := undef) rfl (by kernel_rfl) (by kernel_rfl) (by kernel_rfl) (by kernel_rfl) (by kernel_rfl) (fun _ _ _ h => h) (Or.inr ⟨by rfl, rfl⟩) ⟨trivial, HQ0.out⟩ ?_
      try simp only [Act.put, List.setIfInBounds_toArray, List.set_cons_zero, List.set_cons_succ]
      refine wpAnyS_takeU 22 ⟨some 160, .move (.tmp 10), _, _, _, some (15, true)⟩ (v := undef) rfl (by kernel_rfl) (by kernel_rfl) (by kernel_rfl) (by kernel_rfl) (by kernel_rfl) (fun _ _ _ h => h) (Or.inr ⟨by rfl, rfl⟩) ⟨trivial, HQ0.out⟩ ?_
      try simp only [Act.put, List.setIfInBounds_toArray, List.set_cons_zero, List.set_cons_succ]
      refine wpAnyS_takeU 23 ⟨some 161, .binOp .sub 3 (.tmp 160) (.const (.int .i64 2)) 3, _, _, _, some (15, true)⟩ (v := undef) rfl (by kernel_rfl) (by kernel_rfl) (by kernel_rfl) (by kernel_rfl) (by kernel_rfl) (fun _ _ _ h => h) (Or.inr ⟨by rfl, rfl⟩) ⟨trivial, HQ0.out⟩ ?_
      try simp only [Act.put, List.setIfInBounds_toArray, List.set_cons_zero, List.set_cons_succ]
      refine wpAnyS_takeU 24 ⟨some 162, .indexAddr 23 (.tmp 159) (.tmp 161), _, _, _, some (15, true)⟩ (v := undef) rfl (by kernel_rfl) (by kernel_rfl) (by kernel_rfl) (by kernel_rfl) (by kernel_rfl) (fun _ _ _ h => h) (Or.inr ⟨by rfl, rfl⟩) ⟨trivial, HQ0.out⟩ ?_
      try simp only [Act.put, List.setIfInBounds_toArray, List.set_cons_zero, List.set_cons_succ]
      refine wpAnyS_takeU 25 ⟨some 163, .load 26 (.tmp 162), _, _, _, some (15, true)⟩ (v := undef) rfl (by kernel_rfl) (by kernel_rfl) (by kernel_rfl) (by kernel_rfl) (by kernel_rfl) (fun _ _ _ h => h) (Or.inr ⟨by rfl, rfl⟩) ⟨trivial, HQ0.out⟩ ?_
      try simp only [Act.put, List.setIfInBounds_toArray, List.set_cons_zero, List.set_cons_succ]
      refine wpAnyS_ready [26] (by kernel_rfl) (by simp) ?_
      refine AllReadyS.cons ⟨some 164, .call { callee := .value (.func 61), args := #[.tmp 158, .tmp 163], argTypes := #[26, 26] }, _, _, _, some (15, true)⟩ rfl (fun K hK => ?_) AllReadyS.nil
      go_simp
      refine hK _ _ trivial (fun _ _ => HQ0.out) ?_
      clear hK K
      try simp only [Act.put, List.setIfInBounds_toArray, List.set_cons_zero, List.set_cons_succ]
      refine wpAnyS_takeU 27 ⟨some 165, .unOp .not 4 (.tmp 164), _, _, _, some (15, true)⟩ (v := undef) rfl (by kernel_rfl) (by kernel_rfl) (by kernel_rfl) (by kernel_rfl) (by kernel_rfl) (fun _ _ _ h => h) (Or.inr ⟨by rfl, rfl⟩) ⟨trivial, HQ0.out⟩ ?_
      try simp only [Act.put, List.setIfInBounds_toArray, List.set_cons_zero, List.set_cons_succ]
      refine wpAnyS_rest 28 (fun _ => trivial) rfl (by kernel_rfl) (by kernel_rfl) ?_
      simp only [List.drop_succ_cons, List.drop_zero]
      go_wp2_with fail
      go_meet
      exact ⟨by rw [HCC2.out], HQ0.out⟩
  obtain ⟨rfl, hbx⟩ := hcut
  have HR3 := Lib.hid (HR2.out.trans (hbx.mono HR2.out.size))
  have HBX := Lib.hid hbx
  clear hbx
  obtain ⟨y0, y1, y2, y3, y4, y5⟩ := (KEY.out _ HR3.out).2.2.2.c
  have yf := (KEY.out _ HR3.out).2.2.2.f
  cases cc with
  | true =>
    go_wp2_with fail
    have HZ := Lib.hid (set6_box (KEY.out _ HR3.out).2.2.2 (k' := 0) (h' := 0) (t' := ⟨#[]⟩) (r1 := .slice none 0 0) (r2 := .slice none 0 0) (r3 := .slice none 0 0)).c
    refine bodyPost_ret (w := set6 wc (w.heap.size + 1 + 1) (.int .i64 0) (.int .i64 0) (.string ⟨#[]⟩) (.slice none 0 0) (.slice none 0 0) (.slice none 0 0)) (v := .tuple #[.agg #[.int .i64 0, .int .i64 0, .string ⟨#[]⟩, .slice none 0 0, .slice none 0 0, .slice none 0 0], .int .i64 2]) ?_ rfl ?_
    · obtain ⟨y0, y1, y2, y3, y4, y5⟩ := HZ.out
      simp [results, Tryz.results25, go_sem, y0, y1, y2, y3, y4, y5]
    · exact ⟨_, _, _, _, _, _, _, .null, rfl, (KEY.out _ HR3.out).1.trans (below_set6 (by omega) _ _ _ _ _ _), jrep_null _ _, trivial, .inl rfl⟩
  | false =>
    obtain ⟨uc0, uc1, uc2, uc3, uc4, uc5, U0, U1, U2, U3, U4, U5, ur⟩ := HATL.out m0 (HLN.out.1 _ (by have := HM0.out; omega))
    obtain ⟨uk, uh, ut, u1, u1n, u1m, u2, u2n, u2m, u3, u3n, u3m, rfl, rfl, rfl, rfl, rfl, rfl⟩ := ur.shape6
    rw [← getD_J] at ur
    rw [HM0.out] at ur
    rw [← HBX.out.cell hblt] at U0 U1 U2 U3 U4 U5
    have HU := Lib.hid ur
    clear ur
    go_wp2_with fail
    have HZ := Lib.hid (set6_box (KEY.out _ HR3.out).2.2.2 (k' := uk) (h' := uh) (t' := ut) (r1 := .slice u1 u1n u1m) (r2 := .slice u2 u2n u2m) (r3 := .slice u3 u3n u3m)).c
    refine bodyPost_ret (w := set6 wc (w.heap.size + 1 + 1) (.int .i64 uk) (.int .i64 uh) (.string ut) (.slice u1 u1n u1m) (.slice u2 u2n u2m) (.slice u3 u3n u3m)) (v := .tuple #[.agg #[.int .i64 uk, .int .i64 uh, .string ut, .slice u1 u1n u1m, .slice u2 u2n u2m, .slice u3 u3n u3m], .int .i64 0]) ?_ rfl ?_
    · obtain ⟨y0, y1, y2, y3, y4, y5⟩ := HZ.out
      simp [results, Tryz.results25, go_sem, y0, y1, y2, y3, y4, y5]
    · obtain ⟨q1, q2⟩ := by_same (w := w) (W1 := W1) (B := (w.heap.size + 1 + 1)) HS.out (by omega) (by omega) HR2.out.size HBX.out (.int .i64 uk) (.int .i64 uh) (.string ut) (.slice u1 u1n u1m) (.slice u2 u2n u2m) (.slice u3 u3n u3m)
      exact ⟨_, _, _, _, _, _, _, _, rfl, (KEY.out _ HR3.out).1.trans (below_set6 (by omega) _ _ _ _ _ _), HU.out.keep q1 q2, getD_ok (ordL_oks HP.out.okl) _, .inr ⟨rfl, ordL_max HP.out hpos⟩⟩
end Go.Gj
