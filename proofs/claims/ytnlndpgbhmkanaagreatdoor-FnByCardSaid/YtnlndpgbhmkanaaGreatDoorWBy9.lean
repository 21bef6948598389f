/-
  spec.By: group_by. (Printed by wip/gen_by3.py.)
-/
import Derived.Test.YtnlndpgbhmkanaaGreatDoorWBy7
import Derived.Test.YtnlndpgbhmkanaaGreatDoorRegT
import Derived.Test.YtnlndpgbhmkanaaGreatDoorWBy4
import Derived.Laws.CopyOwn
namespace Go.Gj
set_option linter.unusedSimpArgs false
set_option linter.unusedVariables false
set_option linter.unnecessarySimpa false
open Go Go.RowKit Go.Proofs

set_option maxHeartbeats 4000000 in
set_option maxRecDepth 100000 in
theorem By_group (l ks : List J) (H : Pair l ks) (w : World) (S : Nat → Prop) (hS : ∀ b, S b → b < w.heap.size) (a1 a2 : Option Addr) (c1 c2 : Nat) (ha : JSl w S l (.slice a1 l.length c1)) (hb : JSl w S ks (.slice a2 ks.length c2)) :
    Calls Tryz.prog 25 #[.string ⟨#[103, 114, 111, 117, 112, 95, 98, 121]⟩, .agg #[.int .i64 5, .int .i64 0, .string ⟨#[]⟩, .slice a1 l.length c1, .slice none 0 0, .slice none 0 0], .agg #[.int .i64 5, .int .i64 0, .string ⟨#[]⟩, .slice a2 ks.length c2, .slice none 0 0, .slice none 0 0]] w (ByRes w S (byJ l ks 1)) := by
  have hne : ((l.length : Int) != ks.length) = false := by rw [H.len]; simp
  have HP := Lib.hid H
  have HS := Lib.hid hS
  have HA := Lib.hid (And.intro ha hb)
  have hB0 := below3 w (.cells #[.int .i64 5, .int .i64 0, .string ⟨#[]⟩, .slice a1 l.length c1, .slice none 0 0, .slice none 0 0] 26) (.cells #[.int .i64 5, .int .i64 0, .string ⟨#[]⟩, .slice a2 ks.length c2, .slice none 0 0, .slice none 0 0] 26) (.cells #[.int .i64 0, .int .i64 0, .string ⟨#[]⟩, .slice none 0 0, .slice none 0 0, .slice none 0 0] 26)
  have e1 : (w.alloc (.cells #[.int .i64 5, .int .i64 0, .string ⟨#[]⟩, .slice a1 l.length c1, .slice none 0 0, .slice none 0 0] 26)).heap.size = w.heap.size + 1 := size_alloc _ _
  have e2 : ((w.alloc (.cells #[.int .i64 5, .int .i64 0, .string ⟨#[]⟩, .slice a1 l.length c1, .slice none 0 0, .slice none 0 0] 26)).alloc (.cells #[.int .i64 5, .int .i64 0, .string ⟨#[]⟩, .slice a2 ks.length c2, .slice none 0 0, .slice none 0 0] 26)).heap.size = w.heap.size + 2 := by rw [size_alloc, e1]
  have e3 : (((w.alloc (.cells #[.int .i64 5, .int .i64 0, .string ⟨#[]⟩, .slice a1 l.length c1, .slice none 0 0, .slice none 0 0] 26)).alloc (.cells #[.int .i64 5, .int .i64 0, .string ⟨#[]⟩, .slice a2 ks.length c2, .slice none 0 0, .slice none 0 0] 26)).alloc (.cells #[.int .i64 0, .int .i64 0, .string ⟨#[]⟩, .slice none 0 0, .slice none 0 0, .slice none 0 0] 26)).heap.size = w.heap.size + 3 := by rw [size_alloc, e2]
  have q1 := Box.new w 5 0 ⟨#[]⟩ (.slice a1 l.length c1) (.slice none 0 0) (.slice none 0 0)
  have q2 := Box.new (w.alloc (.cells #[.int .i64 5, .int .i64 0, .string ⟨#[]⟩, .slice a1 l.length c1, .slice none 0 0, .slice none 0 0] 26)) 5 0 ⟨#[]⟩ (.slice a2 ks.length c2) (.slice none 0 0) (.slice none 0 0)
  have q3 := Box.new ((w.alloc (.cells #[.int .i64 5, .int .i64 0, .string ⟨#[]⟩, .slice a1 l.length c1, .slice none 0 0, .slice none 0 0] 26)).alloc (.cells #[.int .i64 5, .int .i64 0, .string ⟨#[]⟩, .slice a2 ks.length c2, .slice none 0 0, .slice none 0 0] 26)) 0 0 ⟨#[]⟩ (.slice none 0 0) (.slice none 0 0) (.slice none 0 0)
  rw [e1] at q2
  rw [e2] at q3
  replace q1 := ((Below.heap_alloc ((w.alloc (.cells #[.int .i64 5, .int .i64 0, .string ⟨#[]⟩, .slice a1 l.length c1, .slice none 0 0, .slice none 0 0] 26)).alloc (.cells #[.int .i64 5, .int .i64 0, .string ⟨#[]⟩, .slice a2 ks.length c2, .slice none 0 0, .slice none 0 0] 26)) (.cells #[.int .i64 0, .int .i64 0, .string ⟨#[]⟩, .slice none 0 0, .slice none 0 0, .slice none 0 0] 26) w.heap.size (by rw [e2]; omega)).trans ((Below.heap_alloc (w.alloc (.cells #[.int .i64 5, .int .i64 0, .string ⟨#[]⟩, .slice a1 l.length c1, .slice none 0 0, .slice none 0 0] 26)) (.cells #[.int .i64 5, .int .i64 0, .string ⟨#[]⟩, .slice a2 ks.length c2, .slice none 0 0, .slice none 0 0] 26) w.heap.size (by rw [e1]; omega)))).trans q1
  replace q2 := (Below.heap_alloc ((w.alloc (.cells #[.int .i64 5, .int .i64 0, .string ⟨#[]⟩, .slice a1 l.length c1, .slice none 0 0, .slice none 0 0] 26)).alloc (.cells #[.int .i64 5, .int .i64 0, .string ⟨#[]⟩, .slice a2 ks.length c2, .slice none 0 0, .slice none 0 0] 26)) (.cells #[.int .i64 0, .int .i64 0, .string ⟨#[]⟩, .slice none 0 0, .slice none 0 0, .slice none 0 0] 26) (w.heap.size + 1) (by rw [e2]; omega)).trans q2
  have HQ := Lib.hid (And.intro hB0 (And.intro e3 (And.intro q1 (And.intro q2 q3))))
  clear ha hb hB0 e1 e2 e3 q1 q2 q3 H hS
  go_enter Tryz.func25, Tryz.ntmps25
  go_upto_region 3 with fail
  generalize (((w.alloc (.cells #[.int .i64 5, .int .i64 0, .string ⟨#[]⟩, .slice a1 l.length c1, .slice none 0 0, .slice none 0 0] 26)).alloc (.cells #[.int .i64 5, .int .i64 0, .string ⟨#[]⟩, .slice a2 ks.length c2, .slice none 0 0, .slice none 0 0] 26)).alloc (.cells #[.int .i64 0, .int .i64 0, .string ⟨#[]⟩, .slice none 0 0, .slice none 0 0, .slice none 0 0] 26)) = W1 at *
  have hsz := HQ.out.2.1
  have KEY : Hid (∀ wx, Below W1.heap.size W1 wx → Below w.heap.size w wx ∧ Box wx w.heap.size 5 0 ⟨#[]⟩ (.slice a1 l.length c1) (.slice none 0 0) (.slice none 0 0) ∧ Box wx (w.heap.size + 1) 5 0 ⟨#[]⟩ (.slice a2 ks.length c2) (.slice none 0 0) (.slice none 0 0) ∧ Box wx (w.heap.size + 1 + 1) 0 0 ⟨#[]⟩ (.slice none 0 0) (.slice none 0 0) (.slice none 0 0)) := Lib.hid fun wx hx =>
    ⟨HQ.out.1.trans (hx.mono (by omega)), (hx.block _ (by omega)).trans HQ.out.2.2.1, (hx.block _ (by omega)).trans HQ.out.2.2.2.1, (hx.block _ (by omega)).trans HQ.out.2.2.2.2⟩
  have HJ : Hid (∀ wx, Below W1.heap.size W1 wx → (∀ b, S b → b < wx.heap.size) ∧ JSl wx S l (.slice a1 l.length c1) ∧ JSl wx S ks (.slice a2 ks.length c2)) := Lib.hid fun wx hx =>
    ⟨lt_below (KEY.out wx hx).1 HS.out, HA.out.1.keep (.of_below (KEY.out wx hx).1 HS.out) (fun _ h => h), HA.out.2.keep (.of_below (KEY.out wx hx).1 HS.out) (fun _ h => h)⟩
  have HR0 := Lib.hid (Below.refl W1.heap.size W1).drew
  have HC : Hid (∀ wx, Below W1.heap.size W1 wx → wx.cell? ⟨w.heap.size, 3, none⟩ = some (.slice a1 l.length c1) ∧ wx.cell? ⟨w.heap.size + 1, 3, none⟩ = some (.slice a2 ks.length c2)) := Lib.hid fun wx hx => by
    obtain ⟨_, k1, k2, _⟩ := KEY.out wx hx
    exact ⟨k1.c.2.2.2.1, k2.c.2.2.2.1⟩
  refine wp_region_S (fun i => decide (10 ≤ i)) (fun w4 => w4.cell? ⟨w.heap.size, 3, none⟩ = some (.slice a1 l.length c1) ∧ w4.cell? ⟨w.heap.size + 1, 3, none⟩ = some (.slice a2 ks.length c2)) (fun _ => True) (by kernel_rfl) ?_
  refine wpAnyS_takeU 0 ⟨some 32, .fieldAddr 26 (.tmp 4) 3, _, _, _, none⟩ (v := ?_) rfl (by kernel_rfl) (by kernel_rfl) (by kernel_rfl) (by kernel_rfl) (by kernel_rfl) (fun _ _ _ h => h) (Or.inl ⟨by rfl, ?_⟩) ⟨trivial, HC.out _ HR0.out⟩ ?_
  rotate_left
  · (intro x hx; clear hx; go_simp; try with_reducible rfl)
  try simp only [Act.put, List.setIfInBounds_toArray, List.set_cons_zero, List.set_cons_succ]
  refine wpAnyS_takeU 1 ⟨some 33, .load 23 (.tmp 32), 23, _, _, none⟩ (v := ?_) rfl (by kernel_rfl) (by kernel_rfl) (by kernel_rfl) (by kernel_rfl) (by kernel_rfl) (fun _ _ _ h => h) (Or.inl ⟨by rfl, ?_⟩) ⟨trivial, HC.out _ HR0.out⟩ ?_
  rotate_left
  · (intro x hx; obtain ⟨-, ⟨s1, s2⟩⟩ := hx; go_simp; try with_reducible rfl)
  try simp only [Act.put, List.setIfInBounds_toArray, List.set_cons_zero, List.set_cons_succ]
  refine wpAnyS_takeU 2 ⟨some 34, .fieldAddr 26 (.tmp 5) 3, _, _, _, none⟩ (v := ?_) rfl (by kernel_rfl) (by kernel_rfl) (by kernel_rfl) (by kernel_rfl) (by kernel_rfl) (fun _ _ _ h => h) (Or.inl ⟨by rfl, ?_⟩) ⟨trivial, HC.out _ HR0.out⟩ ?_
  rotate_left
  · (intro x hx; clear hx; go_simp; try with_reducible rfl)
  try simp only [Act.put, List.setIfInBounds_toArray, List.set_cons_zero, List.set_cons_succ]
  refine wpAnyS_takeU 3 ⟨some 35, .load 23 (.tmp 34), 23, _, _, none⟩ (v := ?_) rfl (by kernel_rfl) (by kernel_rfl) (by kernel_rfl) (by kernel_rfl) (by kernel_rfl) (fun _ _ _ h => h) (Or.inl ⟨by rfl, ?_⟩) ⟨trivial, HC.out _ HR0.out⟩ ?_
  rotate_left
  · (intro x hx; obtain ⟨-, ⟨s1, s2⟩⟩ := hx; go_simp; try with_reducible rfl)
  try simp only [Act.put, List.setIfInBounds_toArray, List.set_cons_zero, List.set_cons_succ]
  refine wpAnyS_takeU 5 ⟨some 37, .fieldAddr 26 (.tmp 5) 3, _, _, _, none⟩ (v := ?_) rfl (by kernel_rfl) (by kernel_rfl) (by kernel_rfl) (by kernel_rfl) (by kernel_rfl) (fun _ _ _ h => h) (Or.inl ⟨by rfl, ?_⟩) ⟨trivial, HC.out _ HR0.out⟩ ?_
  rotate_left
  · (intro x hx; clear hx; go_simp; try with_reducible rfl)
  try simp only [Act.put, List.setIfInBounds_toArray, List.set_cons_zero, List.set_cons_succ]
  refine wpAnyS_takeU 6 ⟨some 38, .load 23 (.tmp 37), 23, _, _, none⟩ (v := ?_) rfl (by kernel_rfl) (by kernel_rfl) (by kernel_rfl) (by kernel_rfl) (by kernel_rfl) (fun _ _ _ h => h) (Or.inl ⟨by rfl, ?_⟩) ⟨trivial, HC.out _ HR0.out⟩ ?_
  rotate_left
  · (intro x hx; obtain ⟨-, ⟨s1, s2⟩⟩ := hx; go_simp; try with_reducible rfl)
  try simp only [Act.put, List.setIfInBounds_toArray, List.set_cons_zero, List.set_cons_succ]
  refine wpAnyS_takeU 7 ⟨some 39, .fieldAddr 26 (.tmp 5) 3, _, _, _, none⟩ (v := ?_) rfl (by kernel_rfl) (by kernel_rfl) (by kernel_rfl) (by kernel_rfl) (by kernel_rfl) (fun _ _ _ h => h) (Or.inl ⟨by rfl, ?_⟩) ⟨trivial, HC.out _ HR0.out⟩ ?_
  rotate_left
  · (intro x hx; clear hx; go_simp; try with_reducible rfl)
  try simp only [Act.put, List.setIfInBounds_toArray, List.set_cons_zero, List.set_cons_succ]
  refine wpAnyS_takeU 8 ⟨some 40, .load 23 (.tmp 39), 23, _, _, none⟩ (v := ?_) rfl (by kernel_rfl) (by kernel_rfl) (by kernel_rfl) (by kernel_rfl) (by kernel_rfl) (fun _ _ _ h => h) (Or.inl ⟨by rfl, ?_⟩) ⟨trivial, HC.out _ HR0.out⟩ ?_
  rotate_left
  · (intro x hx; obtain ⟨-, ⟨s1, s2⟩⟩ := hx; go_simp; try with_reducible rfl)
  try simp only [Act.put, List.setIfInBounds_toArray, List.set_cons_zero, List.set_cons_succ]
  refine wpAnyS_ready [4] (by kernel_rfl) (by simp) ?_
  refine AllReadyS.cons ⟨some 36, .call { callee := .value (.func 59), args := #[.tmp 33, .tmp 35], argTypes := #[23, 23] }, 23, _, _, none⟩ rfl (fun K hK => ?_) AllReadyS.nil
  go_simp
  go_at_call 59
  refine (Sorted_ok l ks HP.out.ok HP.out.len HP.out.lim _ S (HJ.out _ HR0.out).1 _ _ (HJ.out _ HR0.out).2.1 (HJ.out _ HR0.out).2.2).mono ?_
  rintro e w2 ⟨v1, rfl, hx, hj⟩
  have HR1 := Lib.hid (HR0.out.trans (hx.mono HR0.out.size))
  have HL := Lib.hid (hj.keep (S' := With S W1.heap.size w2) (fun _ _ => rfl) (fun b h => h.imp_right fun q => ⟨Nat.le_trans HR0.out.size q.1, q.2⟩))
  obtain ⟨p1, m1, rfl, -⟩ := hj.at
  clear hx hj
  try go_simp
  refine hK _ _ trivial (fun _ _ => HC.out _ HR1.out) ?_
  clear hK K
  try simp only [Act.put, List.setIfInBounds_toArray, List.set_cons_zero, List.set_cons_succ]
  refine wpAnyS_ready [9] (by kernel_rfl) (by simp) ?_
  refine AllReadyS.cons ⟨some 41, .call { callee := .value (.func 59), args := #[.tmp 38, .tmp 40], argTypes := #[23, 23] }, 23, _, _, none⟩ rfl (fun K hK => ?_) AllReadyS.nil
  go_simp
  go_at_call 59
  refine (Sorted_ok ks ks HP.out.ok rfl (by rw [HP.out.len]; exact HP.out.lim) _ S (HJ.out _ HR1.out).1 _ _ (HJ.out _ HR1.out).2.2 (HJ.out _ HR1.out).2.2).mono ?_
  rintro e w3 ⟨v2, rfl, hx, hj⟩
  have HR2 := Lib.hid (HR1.out.trans (hx.mono HR1.out.size))
  have HL2 := Lib.hid (HL.out.keep (S' := With S W1.heap.size w3) (.of_below hx (With.lt (fun b hb => Nat.lt_of_lt_of_le (HS.out b hb) (by omega)) HR1.out.size)) (fun b h => h.imp_right fun q => ⟨q.1, Nat.lt_of_lt_of_le q.2 hx.size⟩))
  have HK := Lib.hid (hj.keep (S' := With S W1.heap.size w3) (fun _ _ => rfl) (fun b h => h.imp_right fun q => ⟨Nat.le_trans HR1.out.size q.1, q.2⟩))
  obtain ⟨p2, m2, rfl, -⟩ := hj.at
  clear hx hj
  try go_simp
  refine hK _ _ trivial (fun _ _ => HC.out _ HR2.out) ?_
  clear hK K
  try simp only [Act.put, List.setIfInBounds_toArray, List.set_cons_zero, List.set_cons_succ]
  refine wpAnyS_rest 10 (fun _ => trivial) rfl (by kernel_rfl) (by kernel_rfl) ?_
  simp only [List.drop_succ_cons, List.drop_zero]
  have hlo : (ordL l ks).length = l.length := by rw [ordL_length HP.out.ok, HP.out.len]
  have hko : (ordL ks ks).length = l.length := by rw [ordL_length HP.out.ok, HP.out.len]
  rw [hlo, hko]
  rw [hlo] at HL2
  rw [hko] at HK
  have HWL : Hid (∀ b, (With S W1.heap.size w3) b → b < w3.heap.size) := Lib.hid (With.lt (fun b hb => Nat.lt_of_lt_of_le (HS.out b hb) (by omega)) HR2.out.size)
  have HLO := Lib.hid (And.intro hlo hko)
  have HLIM := Lib.hid (show l.length ≤ 1000000 from HP.out.lim)
  clear hlo hko
  go_upto_block 1 with fail
  go_wp2_with fail
  go_loopw [11, 61] (fun v11 v61 wr => ∃ (k : Nat) (xs : List Value), v61 = .int .i64 k ∧ k ≤ l.length ∧ GInv w3 (With S W1.heap.size w3) wr (grpN (ordL l ks) (ordL ks ks) k) v11 xs) (fun _ v61 _ => l.length - (Go.RowKit.intOf v61).toNat)
  case atStart => exact ⟨0, [], rfl, Nat.zero_le _, GInv.nil _ _⟩
  case round =>
    obtain ⟨k, xs, rfl, hk, hg⟩ := hrel
    obtain ⟨va, vc, rfl⟩ := own_shape hg.own
    have HG := Lib.hid hg
    clear hg
    by_cases hlt : k < l.length
    · have hlt' : (k : Int) < l.length := by omega
      have hlim := HLIM.out
      have hgl := grpN_length (ordL l ks) (ordL ks ks) k
      obtain ⟨b, o, c, hv, hSb, hat⟩ := HL2.out.row (by rw [HLO.out.1]; omega)
      simp only [Value.slice.injEq] at hv
      obtain ⟨rfl, -, rfl⟩ := hv
      obtain ⟨bk, ok, ck, hv, hSk, hatk⟩ := HK.out.row (by rw [HLO.out.2]; omega)
      simp only [Value.slice.injEq] at hv
      obtain ⟨rfl, -, rfl⟩ := hv
      obtain ⟨c0, c1, c2, c3, c4, c5, h0, h1, h2, h3, h4, h5, hrep⟩ := hat k (by rw [HLO.out.1]; exact hlt)
      have hbl := HWL.out b hSb
      have hbk := HWL.out bk hSk
      have hcx : ∀ p : Addr, p.block < w3.heap.size → wr.cell? p = w3.cell? p := fun p hp => HG.out.bel.cell hp
      rw [← hcx _ hbl] at h0 h1 h2 h3 h4 h5
      have hgl2 : (ordL l ks)[k]'(by rw [HLO.out.1]; exact hlt) = (ordL l ks).getD k .null := (getD_J (by rw [HLO.out.1]; exact hlt)).symm
      rw [hgl2] at hrep
      have HATK := Lib.hid hatk
      obtain ⟨rk, rh, rt, a1, n1, m1, a2, n2, m2, a3, n3, m3, rfl, rfl, rfl, rfl, rfl, rfl⟩ := hrep.shape6
      have hsz := HG.out.bel.size
      have HREP := Lib.hid hrep
      clear hat hatk hrep hcx hgl2
      go_upto_region 14 with fail
      have hw1 := below1 wr (.cells #[.int .i64 rk, .int .i64 rh, .string rt, .slice a1 n1 m1, .slice a2 n2 m2, .slice a3 n3 m3] 26)
      have hbox : Box (wr.alloc (.cells #[.int .i64 rk, .int .i64 rh, .string rt, .slice a1 n1 m1, .slice a2 n2 m2, .slice a3 n3 m3] 26)) wr.heap.size rk rh rt (.slice a1 n1 m1) (.slice a2 n2 m2) (.slice a3 n3 m3) := Box.new _ _ _ _ _ _ _
      have hsw := size_alloc wr (.cells #[.int .i64 rk, .int .i64 rh, .string rt, .slice a1 n1 m1, .slice a2 n2 m2, .slice a3 n3 m3] 26)
      have HW1 := Lib.hid (HG.out.over HWL.out hw1)
      have HBOX := Lib.hid hbox
      have HBW1 := Lib.hid (HG.out.bel.trans (hw1.mono HG.out.bel.size))
      generalize wr.alloc (.cells #[.int .i64 rk, .int .i64 rh, .string rt, .slice a1 n1 m1, .slice a2 n2 m2, .slice a3 n3 m3] 26) = w1 at *
      clear hbox hw1 h0 h1 h2 h3 h4 h5
      have hsz1 := HBW1.out.size
      obtain ⟨cc, hc⟩ : ∃ c, c = decide (k = 0 ∨ cmpJ ((ordL ks ks).getD (k - 1) .null) ((ordL ks ks).getD k .null) ≠ 0) := ⟨_, rfl⟩
      have HC := Lib.hid hc
      clear hc
      go_cut [80] (fun v wx => v = .bool cc ∧ Below w1.heap.size w1 wx)
      case first =>
        by_cases hk0 : k = 0
        · subst hk0
          have hct : cc = true := by rw [HC.out]; simp
          have HCT := Lib.hid hct
          clear hct
          refine wp_region_quiet_tail 12 (by kernel_rfl) (by kernel_rfl) ?_
          simp only [List.take_succ_cons, List.take_zero, List.drop_succ_cons, List.drop_zero]
          repeat (go_big_quiet_step (fail))
          refine wpQuiet_nil ?_
          go_wp2_with fail
          go_meet
          exact ⟨by rw [HCT.out], (Below.refl _ _).drew⟩
        · obtain ⟨k', rfl⟩ : ∃ k', k = k' + 1 := ⟨k - 1, by omega⟩
          have hk1 : ((k' : Int) + 1 == 0) = false := by rw [beq_eq_false_iff_ne]; omega
          have hk2 : (k' : Int) + 1 < l.length := by omega
          have hcd : cc = !(cmpJ ((ordL ks ks).getD k' .null) ((ordL ks ks).getD (k' + 1) .null) == 0) := by
            rw [HC.out, Bool.eq_iff_iff]
            simp
          have HCD := Lib.hid hcd
          clear hcd
          have hkk' : (k' : Int) < l.length := by omega
          obtain ⟨d0, d1, d2, d3, d4, d5, e0, e1, e2, e3, e4, e5, hr1⟩ := HATK.out k' (by rw [HLO.out.2]; omega)
          obtain ⟨f0, f1, f2, f3, f4, f5, g0, g1, g2, g3, g4, g5, hr2⟩ := HATK.out (k' + 1) (by rw [HLO.out.2]; omega)
          have hcx : ∀ p : Addr, p.block < w3.heap.size → w1.cell? p = w3.cell? p := fun p hp => HBW1.out.cell hp
          rw [← hcx _ hbk] at e0 e1 e2 e3 e4 e5 g0 g1 g2 g3 g4 g5
          have okk : ∀ i, ((ordL ks ks).getD i .null).ok := fun i => getD_ok (ordL_oks HP.out.ok) i
          rw [← getD_J (by rw [HLO.out.2]; omega)] at hr1 hr2
          have HSM := Lib.hid (Same_ok _ _ w1.drew _ _ _ (okk k') (okk (k' + 1)) (fun b hb => Nat.lt_of_lt_of_le (HWL.out b hb) hsz1) (hr1.keep (.of_below HBW1.out.drew HWL.out) (fun _ h => h)) (hr2.keep (.of_below HBW1.out.drew HWL.out) (fun _ h => h)))
          generalize (cmpJ ((ordL ks ks).getD k' .null) ((ordL ks ks).getD (k' + 1) .null) == 0) = dd at HSM HCD
          obtain ⟨sk1, sh1, st1, x1, y1, z1, x2, y2, z2, x3, y3, z3, rfl, rfl, rfl, rfl, rfl, rfl⟩ := hr1.shape6
          obtain ⟨tk1, th1, tt1, p1, q1, s1, p2, q2, s2, p3, q3, s3, rfl, rfl, rfl, rfl, rfl, rfl⟩ := hr2.shape6
          clear hr1 hr2 okk hcx
          refine wp_region_quiet_tail 12 (by kernel_rfl) (by kernel_rfl) ?_
          simp only [List.take_succ_cons, List.take_zero, List.drop_succ_cons, List.drop_zero]
          repeat (go_big_quiet_step (fail))
          refine wpQuiet_nil ?_
          go_wp2_with (go_at_call 61; refine HSM.out.mono ?_; rintro e wx ⟨rfl, hx⟩; have HX := Lib.hid ((Below.refl _ _).drew.trans hx); clear hx)
          go_meet
          exact ⟨by rw [HCD.out], HX.out⟩
      obtain ⟨rfl, hbx⟩ := hcut
      have HBX := Lib.hid hbx
      have HGC := Lib.hid (HW1.out.over HWL.out hbx)
      clear hbx
      have hol := HG.out.own.lt
      have HOL : Hid (∀ b, (Value.slice va (grpN (ordL l ks) (ordL ks ks) k).length vc).ownBlock = some b → w3.heap.size ≤ b ∧ b < wr.heap.size) := Lib.hid fun b e => hol b e
      clear hol
      go_upto_if 80 with fail
      go_cut [11] (fun v11 wx => ∃ (gs : List (List J)) (xm : List Value) (g0 q m cap : Nat) (d : Option Addr) (n c : Nat) (last : List J) (old : List Value), v11 = .slice (some ⟨g0, 0, none⟩) q cap ∧ q = m + 1 ∧ GMid w3 (With S W1.heap.size w3) wx gs xm g0 m cap d n c last old ∧ n ≤ k ∧ m ≤ k ∧ wx.heap[wr.heap.size]? = w1.heap[wr.heap.size]? ∧ addLast gs ((ordL l ks).getD k .null) = grpN (ordL l ks) (ordL ks ks) (k + 1) ∧ w1.heap.size ≤ wx.heap.size)
      case first =>
        cases cc with
        | false =>
          have hn := of_decide_eq_false HC.out.symm
          have hpos := grpN_pos (ordL l ks) (ordL ks ks) k (Nat.pos_of_ne_zero fun e => hn (.inl e))
          obtain ⟨m, hm⟩ : ∃ m, (grpN (ordL l ks) (ordL ks ks) k).length = m + 1 := ⟨(grpN (ordL l ks) (ordL ks ks) k).length - 1, by omega⟩
          have HM := Lib.hid hm
          have HHN := Lib.hid hn
          obtain ⟨g0, hg0⟩ : ∃ g0, va = some ⟨g0, 0, none⟩ := by
            rcases own_shape' HGC.out.own with ⟨_, h, _⟩ | ⟨g, h, _⟩
            · omega
            · exact ⟨g, h⟩
          subst hg0
          clear hm hpos hn
          go_wp2_with fail
          go_meet
          have hm := HM.out
          have hne : (grpN (ordL l ks) (ordL ks ks) k).getD m [] ≠ [] := by
            rw [List.getD_eq_getElem?_getD, List.getElem?_eq_getElem (by omega)]
            exact grpN_ne _ _ k _ (List.getElem_mem _)
          have hgc := HGC.out
          obtain ⟨d, c', old, hmid⟩ := GInv.mid_old (g0 := g0) (m := m) (cap := vc) HWL.out (by have := hgc; rw [hm] at this; exact this) hm hne
          exact ⟨_, xs, g0, _, m, vc, d, _, c', _, old, rfl, hm, hmid, by rw [List.getD_eq_getElem?_getD, List.getElem?_eq_getElem (by omega)]; exact (grpN_each (ordL l ks) (ordL ks ks) (ordL_oks HP.out.okl) k _ (List.getElem_mem _)).1, by omega, HBX.out.block _ (by omega), (grpN_old _ _ k HHN.out).symm, HBX.out.size⟩
        | true =>
          go_wp2_with (first | (go_at_call 19; refine (arr19_ok none 0 0 _).mono ?_; rintro e w5 ⟨rfl, hx5⟩; have HX5 := Lib.hid hx5; have HG5 := Lib.hid (HGC.out.over HWL.out hx5); obtain ⟨gn, capn, wz, xn, hrun, hgz, hblk, hxn, hsz5⟩ := GInv.new HWL.out HG5.out (by have := HLIM.out; omega); have HRUN := Lib.hid hrun; have HGZ := Lib.hid (And.intro hgz (And.intro hblk (And.intro hxn hsz5))); clear hx5 hrun hgz hblk hxn hsz5) | (at_builtin; refine wpList_plain rfl fun _ hK => wp_append_run (.tmp 81) (.tmp 83) 23 rfl rfl rfl (HRUN.out _) (hK _ _ ?_)))
          go_meet
          have hn := of_decide_eq_true HC.out.symm
          obtain ⟨hgz, hblk, hxn, hsz5⟩ := HGZ.out
          have hown1 : ∀ b, b < w5.heap.size → (Value.slice va (grpN (ordL l ks) (ordL ks ks) k).length vc).ownBlock ≠ some b → wz.heap[b]? = w5.heap[b]? := hblk
          have h15 := HBX.out.size
          have h55 := HX5.out.size
          exact ⟨_, xn, gn, _, (grpN (ordL l ks) (ordL ks ks) k).length, capn, none, 0, 0, [], [], rfl, rfl, GInv.mid_new hgz hxn, Nat.zero_le _, hgl, (hown1 _ (by omega) (fun e => by have := (HOL.out _ e).2; omega)).trans ((HX5.out.block _ (by omega)).trans (HBX.out.block _ (by omega))), (grpN_new _ _ k hn).symm, by omega⟩
      obtain ⟨gs, xm, g0, q, m, cap, d, n, c', last, old, rfl, hq, hmid, hnk, hmk, hbx', hadd, hszx⟩ := hcut
      have HQM := Lib.hid hq
      have hi1 : (q : Int) - 1 = (m : Int) := by omega
      have hi2 : (m : Int) < (q : Int) := by omega
      have hi3 : (0 : Int) ≤ (m : Int) := by omega
      have hwm : Go.IntKind.wrap .i64 (m : Int) = (m : Int) := by have := HLIM.out; rw [IntKind.wrap_i64]; omega
      have HADD := Lib.hid hadd
      have hd0 : Below wc.heap.size wc wc.drew := (Below.refl wc.heap.size wc).drew
      have HMID := Lib.hid (hmid.over HWL.out hd0)
      have HBXC : Hid (Box wc.drew wr.heap.size rk rh rt (.slice a1 n1 m1) (.slice a2 n2 m2) (.slice a3 n3 m3)) := Lib.hid ((hd0.block _ (by omega)).trans (hbx'.trans HBOX.out))
      have HCELL : Hid (∀ wx, Below wc.drew.heap.size wc.drew wx → wx.cell? ⟨g0, m * 6 + 3, none⟩ = some (.slice d n c') ∧ wx.cell? ⟨wr.heap.size, 0, none⟩ = some (.int .i64 rk) ∧ wx.cell? ⟨wr.heap.size, 1, none⟩ = some (.int .i64 rh) ∧ wx.cell? ⟨wr.heap.size, 2, none⟩ = some (.string rt) ∧ wx.cell? ⟨wr.heap.size, 3, none⟩ = some (.slice a1 n1 m1) ∧ wx.cell? ⟨wr.heap.size, 4, none⟩ = some (.slice a2 n2 m2) ∧ wx.cell? ⟨wr.heap.size, 5, none⟩ = some (.slice a3 n3 m3)) := Lib.hid fun wx hx => by
        obtain ⟨x0, x1, x2, x3, x4, x5⟩ := (show Box wx _ _ _ _ _ _ _ from (hx.block _ (by show wr.heap.size < wc.heap.size; omega)).trans HBXC.out).c
        exact ⟨(HMID.out.over HWL.out hx).cell, x0, x1, x2, x3, x4, x5⟩
      have HST : Hid (∀ wx, Below wc.drew.heap.size wc.drew wx → (∃ z0 z1 z2 z3 z4 z5, wx.cell? ⟨g0, m * 6, none⟩ = some z0 ∧ wx.cell? ⟨g0, m * 6 + 1, none⟩ = some z1 ∧ wx.cell? ⟨g0, m * 6 + 2, none⟩ = some z2 ∧ wx.cell? ⟨g0, m * 6 + 3, none⟩ = some z3 ∧ wx.cell? ⟨g0, m * 6 + 4, none⟩ = some z4 ∧ wx.cell? ⟨g0, m * 6 + 5, none⟩ = some z5) ∧ ∀ o, wx.frozen? ⟨g0, o, none⟩ = false) := Lib.hid fun wx hx => (HMID.out.over HWL.out hx).inv.six HMID.out.len
      clear hq hadd hd0 hmid hbx'
      go_upto_region 16 with fail
      refine wp_region_S (fun i => decide (17 ≤ i)) (fun w4 => Below wc.drew.heap.size wc.drew w4) (fun _ => True) (by kernel_rfl) ?_
      generalize wc.drew = wd at *
      have BB := Lib.hid (Below.refl wd.heap.size wd)
      have hsd := HMID.out.inv.bel.size
      refine wpAnyS_takeU 0 ⟨some 85, .move (.tmp 11), _, _, _, none⟩ (v := ?_) rfl (by kernel_rfl) (by kernel_rfl) (by kernel_rfl) (by kernel_rfl) (by kernel_rfl) (fun _ _ _ h => h) (Or.inl ⟨by rfl, ?_⟩) ⟨trivial, BB.out⟩ ?_
      rotate_left
      · (intro x hx; clear hx; go_simp; try with_reducible rfl)
      try simp only [Act.put, List.setIfInBounds_toArray, List.set_cons_zero, List.set_cons_succ]
      refine wpAnyS_takeU 1 ⟨some 86, .move (.tmp 11), _, _, _, none⟩ (v := ?_) rfl (by kernel_rfl) (by kernel_rfl) (by kernel_rfl) (by kernel_rfl) (by kernel_rfl) (fun _ _ _ h => h) (Or.inl ⟨by rfl, ?_⟩) ⟨trivial, BB.out⟩ ?_
      rotate_left
      · (intro x hx; clear hx; go_simp; try with_reducible rfl)
      try simp only [Act.put, List.setIfInBounds_toArray, List.set_cons_zero, List.set_cons_succ]
      refine wpAnyS_takeU 2 ⟨some 87, .call { callee := .builtin .len, args := #[.tmp 86], argTypes := #[23] }, _, _, _, none⟩ (v := ?_) rfl (by kernel_rfl) (by kernel_rfl) (by kernel_rfl) (by kernel_rfl) (by kernel_rfl) (fun _ _ _ h => h) (Or.inl ⟨by rfl, ?_⟩) ⟨trivial, BB.out⟩ ?_
      rotate_left
      · (intro x hx; clear hx; go_simp; try with_reducible rfl)
      try simp only [Act.put, List.setIfInBounds_toArray, List.set_cons_zero, List.set_cons_succ]
      refine wpAnyS_takeU 3 ⟨some 88, .binOp .sub 3 (.tmp 87) (.const (.int .i64 1)) 3, _, _, _, none⟩ (v := ?_) rfl (by kernel_rfl) (by kernel_rfl) (by kernel_rfl) (by kernel_rfl) (by kernel_rfl) (fun _ _ _ h => h) (Or.inl ⟨by rfl, ?_⟩) ⟨trivial, BB.out⟩ ?_
      rotate_left
      · (intro x hx; clear hx; go_simp; try with_reducible rfl)
      try simp only [Act.put, List.setIfInBounds_toArray, List.set_cons_zero, List.set_cons_succ]
      refine wpAnyS_takeU 5 ⟨some 90, .move (.tmp 11), _, _, _, none⟩ (v := ?_) rfl (by kernel_rfl) (by kernel_rfl) (by kernel_rfl) (by kernel_rfl) (by kernel_rfl) (fun _ _ _ h => h) (Or.inl ⟨by rfl, ?_⟩) ⟨trivial, BB.out⟩ ?_
      rotate_left
      · (intro x hx; clear hx; go_simp; try with_reducible rfl)
      try simp only [Act.put, List.setIfInBounds_toArray, List.set_cons_zero, List.set_cons_succ]
      refine wpAnyS_takeU 6 ⟨some 91, .move (.tmp 11), _, _, _, none⟩ (v := ?_) rfl (by kernel_rfl) (by kernel_rfl) (by kernel_rfl) (by kernel_rfl) (by kernel_rfl) (fun _ _ _ h => h) (Or.inl ⟨by rfl, ?_⟩) ⟨trivial, BB.out⟩ ?_
      rotate_left
      · (intro x hx; clear hx; go_simp; try with_reducible rfl)
      try simp only [Act.put, List.setIfInBounds_toArray, List.set_cons_zero, List.set_cons_succ]
      refine wpAnyS_takeU 7 ⟨some 92, .call { callee := .builtin .len, args := #[.tmp 91], argTypes := #[23] }, _, _, _, none⟩ (v := ?_) rfl (by kernel_rfl) (by kernel_rfl) (by kernel_rfl) (by kernel_rfl) (by kernel_rfl) (fun _ _ _ h => h) (Or.inl ⟨by rfl, ?_⟩) ⟨trivial, BB.out⟩ ?_
      rotate_left
      · (intro x hx; clear hx; go_simp; try with_reducible rfl)
      try simp only [Act.put, List.setIfInBounds_toArray, List.set_cons_zero, List.set_cons_succ]
      refine wpAnyS_takeU 8 ⟨some 93, .binOp .sub 3 (.tmp 92) (.const (.int .i64 1)) 3, _, _, _, none⟩ (v := ?_) rfl (by kernel_rfl) (by kernel_rfl) (by kernel_rfl) (by kernel_rfl) (by kernel_rfl) (fun _ _ _ h => h) (Or.inl ⟨by rfl, ?_⟩) ⟨trivial, BB.out⟩ ?_
      rotate_left
      · (intro x hx; clear hx; go_simp; try with_reducible rfl)
      try simp only [Act.put, List.setIfInBounds_toArray, List.set_cons_zero, List.set_cons_succ]
      refine wpAnyS_takeU 9 ⟨some 94, .indexAddr 23 (.tmp 90) (.tmp 93), _, _, _, none⟩ (v := ?_) rfl (by kernel_rfl) (by kernel_rfl) (by kernel_rfl) (by kernel_rfl) (by kernel_rfl) (fun _ _ _ h => h) (Or.inl ⟨by rfl, ?_⟩) ⟨trivial, BB.out⟩ ?_
      rotate_left
      · (intro x hx; clear hx; go_simp; try with_reducible rfl)
      try simp only [Act.put, List.setIfInBounds_toArray, List.set_cons_zero, List.set_cons_succ]
      refine wpAnyS_takeU 10 ⟨some 95, .fieldAddr 26 (.tmp 94) 3, _, _, _, none⟩ (v := ?_) rfl (by kernel_rfl) (by kernel_rfl) (by kernel_rfl) (by kernel_rfl) (by kernel_rfl) (fun _ _ _ h => h) (Or.inl ⟨by rfl, ?_⟩) ⟨trivial, BB.out⟩ ?_
      rotate_left
      · (intro x hx; clear hx; go_simp; try with_reducible rfl)
      try simp only [Act.put, List.setIfInBounds_toArray, List.set_cons_zero, List.set_cons_succ]
      refine wpAnyS_takeU 11 ⟨some 96, .load 23 (.tmp 95), _, _, _, none⟩ (v := ?_) rfl (by kernel_rfl) (by kernel_rfl) (by kernel_rfl) (by kernel_rfl) (by kernel_rfl) (fun _ _ _ h => h) (Or.inl ⟨by rfl, ?_⟩) ⟨trivial, BB.out⟩ ?_
      rotate_left
      · (intro x hx; obtain ⟨-, hs⟩ := hx; obtain ⟨hk3, x0, x1, x2, x3, x4, x5⟩ := HCELL.out _ hs; go_simp; try with_reducible rfl)
      try simp only [Act.put, List.setIfInBounds_toArray, List.set_cons_zero, List.set_cons_succ]
      refine wpAnyS_takeU 13 ⟨some 98, .load 26 (.tmp 13), _, _, _, none⟩ (v := ?_) rfl (by kernel_rfl) (by kernel_rfl) (by kernel_rfl) (by kernel_rfl) (by kernel_rfl) (fun _ _ _ h => h) (Or.inl ⟨by rfl, ?_⟩) ⟨trivial, BB.out⟩ ?_
      rotate_left
      · (intro x hx; obtain ⟨-, hs⟩ := hx; obtain ⟨hk3, x0, x1, x2, x3, x4, x5⟩ := HCELL.out _ hs; go_simp; try with_reducible rfl)
      try simp only [Act.put, List.setIfInBounds_toArray, List.set_cons_zero, List.set_cons_succ]
      obtain ⟨dA, kA, yA, gA, qA, zA, r1, b1, r2, o2, b2⟩ := grp_A HMID.out.src (by have := HLIM.out; omega) (.int .i64 rk) (.int .i64 rh) (.string rt) (.slice a1 n1 m1) (.slice a2 n2 m2) (.slice a3 n3 m3) (by intro u hu; simp at hu; rcases hu with rfl | rfl | rfl | rfl | rfl | rfl <;> rfl)
      have AR1 := Lib.hid r1
      have AR2 := Lib.hid r2
      have A := Lib.hid (And.intro b1 (And.intro o2 b2))
      clear r1 r2 o2 b2 b1
      obtain ⟨dB, kB, yB, gB, qB, zB, r1, b1, r2, o2, b2⟩ := grp_B HMID.out.src (by have := HLIM.out; omega) (.int .i64 rk) (.int .i64 rh) (.string rt) (.slice a1 n1 m1) (.slice a2 n2 m2) (.slice a3 n3 m3) (by intro u hu; simp at hu; rcases hu with rfl | rfl | rfl | rfl | rfl | rfl <;> rfl)
      have BR1 := Lib.hid r1
      have BR2 := Lib.hid r2
      have B := Lib.hid (And.intro b1 (And.intro o2 b2))
      clear r1 r2 o2 b2 b1
      obtain ⟨dC, kC, yC, gC, qC, zC, r1, b1, r2, o2, b2⟩ := grp_C HMID.out.src (by have := HLIM.out; omega) (.int .i64 rk) (.int .i64 rh) (.string rt) (.slice a1 n1 m1) (.slice a2 n2 m2) (.slice a3 n3 m3) (by intro u hu; simp at hu; rcases hu with rfl | rfl | rfl | rfl | rfl | rfl <;> rfl)
      have CR1 := Lib.hid r1
      have CR2 := Lib.hid r2
      have C := Lib.hid (And.intro b1 (And.intro o2 b2))
      clear r1 r2 o2 b2 b1
      refine wpAnyS_ready [4, 14] (by kernel_rfl) (by simp) ?_
      refine AllReadyS.cons ⟨some 89, .buildSlice 23 0 #[], _, _, _, none⟩ rfl (fun K hK => ?_) (AllReadyS.cons ⟨some 99, .buildSlice 23 1 #[(0, .tmp 98)], _, _, _, none⟩ rfl (fun K hK => ?_) AllReadyS.nil)
      · go_simp
        refine hK _ _ trivial (fun _ _ => below1 wd (.cells #[] 26)) ?_
        clear hK K
        try simp only [Act.put, List.setIfInBounds_toArray, List.set_cons_zero, List.set_cons_succ]
        refine wpAnyS_ready [12, 14] (by kernel_rfl) (by simp) ?_
        refine AllReadyS.cons ⟨some 97, .call { callee := .builtin .append, args := #[.tmp 89, .tmp 96], argTypes := #[23, 23] }, _, _, _, none⟩ rfl (fun K hK => ?_) (AllReadyS.cons ⟨some 99, .buildSlice 23 1 #[(0, .tmp 98)], _, _, _, none⟩ rfl (fun K hK => ?_) AllReadyS.nil)
        · refine wp_append_if (.tmp 89) (.tmp 96) 23 (by rfl) rfl rfl rfl (AR1.out _) ?_
          refine hK _ _ trivial (fun _ _ => A.out.1) ?_
          clear hK K
          try simp only [Act.put, List.setIfInBounds_toArray, List.set_cons_zero, List.set_cons_succ]
          refine wpAnyS_ready [14] (by kernel_rfl) (by simp) ?_
          refine AllReadyS.cons ⟨some 99, .buildSlice 23 1 #[(0, .tmp 98)], _, _, _, none⟩ rfl (fun K hK => ?_) AllReadyS.nil
          go_simp
          refine hK _ _ trivial (fun _ _ => A.out.1.alloc A.out.1.size (.cells #[.int .i64 rk, .int .i64 rh, .string rt, .slice a1 n1 m1, .slice a2 n2 m2, .slice a3 n3 m3] 26)) ?_
          clear hK K
          try simp only [Act.put, List.setIfInBounds_toArray, List.set_cons_zero, List.set_cons_succ]
          refine wpAnyS_ready [15] (by kernel_rfl) (by simp) ?_
          refine AllReadyS.cons ⟨some 100, .call { callee := .builtin .append, args := #[.tmp 97, .tmp 99], argTypes := #[23, 23] }, _, _, _, none⟩ rfl (fun K hK => ?_) AllReadyS.nil
          refine wp_append_if (.tmp 97) (.tmp 99) 23 (by rfl) rfl rfl rfl (AR2.out _) ?_
          refine hK _ _ trivial (fun _ _ => A.out.2.2) ?_
          clear hK K
          try simp only [Act.put, List.setIfInBounds_toArray, List.set_cons_zero, List.set_cons_succ]
          refine wpAnyS_ready [16] (by kernel_rfl) (by simp) ?_
          refine AllReadyS.cons ⟨some 101, .call { callee := .value (.func 19), args := #[.tmp 100], argTypes := #[23] }, _, _, _, none⟩ rfl (fun K hK => ?_) AllReadyS.nil
          go_simp
          go_at_call 19
          refine (arr19_ok _ _ _ _).mono ?_
          rintro e y3 ⟨rfl, hx3⟩
          have BX3 := Lib.hid hx3
          have BY3 := Lib.hid (A.out.2.2.trans (hx3.mono A.out.2.2.size))
          clear hx3
          try go_simp
          refine hK _ _ trivial (fun _ _ => BY3.out) ?_
          clear hK K
          try simp only [Act.put, List.setIfInBounds_toArray, List.set_cons_zero, List.set_cons_succ]
          refine wpAnyS_rest 17 (fun _ => trivial) rfl (by kernel_rfl) (by kernel_rfl) ?_
          simp only [List.drop_succ_cons, List.drop_zero]
          obtain ⟨⟨z0, z1, z2, z3, z4, z5, zc0, zc1, zc2, zc3, zc4, zc5⟩, zf⟩ := HST.out _ BY3.out
          go_wp2_with fail
          go_roundw
          case rel =>
            obtain ⟨xs', hfin⟩ := GMid.fin HWL.out HMID.out (by have := HLIM.out; unfold lim; omega) HREP.out A.out.2.1 A.out.2.2 BX3.out
            rw [HADD.out] at hfin
            exact ⟨k + 1, xs', by go_num, hlt, by rw [HQM.out]; exact hfin⟩
          case measure => simp [Go.RowKit.intOf]; omega
        · go_simp
          refine hK _ _ trivial (fun _ _ => below2 wd (.cells #[] 26) (.cells #[.int .i64 rk, .int .i64 rh, .string rt, .slice a1 n1 m1, .slice a2 n2 m2, .slice a3 n3 m3] 26)) ?_
          clear hK K
          try simp only [Act.put, List.setIfInBounds_toArray, List.set_cons_zero, List.set_cons_succ]
          refine wpAnyS_ready [12] (by kernel_rfl) (by simp) ?_
          refine AllReadyS.cons ⟨some 97, .call { callee := .builtin .append, args := #[.tmp 89, .tmp 96], argTypes := #[23, 23] }, _, _, _, none⟩ rfl (fun K hK => ?_) AllReadyS.nil
          refine wp_append_if (.tmp 89) (.tmp 96) 23 (by rfl) rfl rfl rfl (BR1.out _) ?_
          refine hK _ _ trivial (fun _ _ => B.out.1) ?_
          clear hK K
          try simp only [Act.put, List.setIfInBounds_toArray, List.set_cons_zero, List.set_cons_succ]
          refine wpAnyS_ready [15] (by kernel_rfl) (by simp) ?_
          refine AllReadyS.cons ⟨some 100, .call { callee := .builtin .append, args := #[.tmp 97, .tmp 99], argTypes := #[23, 23] }, _, _, _, none⟩ rfl (fun K hK => ?_) AllReadyS.nil
          refine wp_append_if (.tmp 97) (.tmp 99) 23 (by rfl) rfl rfl rfl (BR2.out _) ?_
          refine hK _ _ trivial (fun _ _ => B.out.2.2) ?_
          clear hK K
          try simp only [Act.put, List.setIfInBounds_toArray, List.set_cons_zero, List.set_cons_succ]
          refine wpAnyS_ready [16] (by kernel_rfl) (by simp) ?_
          refine AllReadyS.cons ⟨some 101, .call { callee := .value (.func 19), args := #[.tmp 100], argTypes := #[23] }, _, _, _, none⟩ rfl (fun K hK => ?_) AllReadyS.nil
          go_simp
          go_at_call 19
          refine (arr19_ok _ _ _ _).mono ?_
          rintro e y3 ⟨rfl, hx3⟩
          have BX3 := Lib.hid hx3
          have BY3 := Lib.hid (B.out.2.2.trans (hx3.mono B.out.2.2.size))
          clear hx3
          try go_simp
          refine hK _ _ trivial (fun _ _ => BY3.out) ?_
          clear hK K
          try simp only [Act.put, List.setIfInBounds_toArray, List.set_cons_zero, List.set_cons_succ]
          refine wpAnyS_rest 17 (fun _ => trivial) rfl (by kernel_rfl) (by kernel_rfl) ?_
          simp only [List.drop_succ_cons, List.drop_zero]
          obtain ⟨⟨z0, z1, z2, z3, z4, z5, zc0, zc1, zc2, zc3, zc4, zc5⟩, zf⟩ := HST.out _ BY3.out
          go_wp2_with fail
          go_roundw
          case rel =>
            obtain ⟨xs', hfin⟩ := GMid.fin HWL.out HMID.out (by have := HLIM.out; unfold lim; omega) HREP.out B.out.2.1 B.out.2.2 BX3.out
            rw [HADD.out] at hfin
            exact ⟨k + 1, xs', by go_num, hlt, by rw [HQM.out]; exact hfin⟩
          case measure => simp [Go.RowKit.intOf]; omega
      · go_simp
        refine hK _ _ trivial (fun _ _ => below1 wd (.cells #[.int .i64 rk, .int .i64 rh, .string rt, .slice a1 n1 m1, .slice a2 n2 m2, .slice a3 n3 m3] 26)) ?_
        clear hK K
        try simp only [Act.put, List.setIfInBounds_toArray, List.set_cons_zero, List.set_cons_succ]
        refine wpAnyS_ready [4] (by kernel_rfl) (by simp) ?_
        refine AllReadyS.cons ⟨some 89, .buildSlice 23 0 #[], _, _, _, none⟩ rfl (fun K hK => ?_) AllReadyS.nil
        go_simp
        refine hK _ _ trivial (fun _ _ => below2 wd (.cells #[.int .i64 rk, .int .i64 rh, .string rt, .slice a1 n1 m1, .slice a2 n2 m2, .slice a3 n3 m3] 26) (.cells #[] 26)) ?_
        clear hK K
        try simp only [Act.put, List.setIfInBounds_toArray, List.set_cons_zero, List.set_cons_succ]
        refine wpAnyS_ready [12] (by kernel_rfl) (by simp) ?_
        refine AllReadyS.cons ⟨some 97, .call { callee := .builtin .append, args := #[.tmp 89, .tmp 96], argTypes := #[23, 23] }, _, _, _, none⟩ rfl (fun K hK => ?_) AllReadyS.nil
        refine wp_append_if (.tmp 89) (.tmp 96) 23 (by rfl) rfl rfl rfl (CR1.out _) ?_
        refine hK _ _ trivial (fun _ _ => C.out.1) ?_
        clear hK K
        try simp only [Act.put, List.setIfInBounds_toArray, List.set_cons_zero, List.set_cons_succ]
        refine wpAnyS_ready [15] (by kernel_rfl) (by simp) ?_
        refine AllReadyS.cons ⟨some 100, .call { callee := .builtin .append, args := #[.tmp 97, .tmp 99], argTypes := #[23, 23] }, _, _, _, none⟩ rfl (fun K hK => ?_) AllReadyS.nil
        refine wp_append_if (.tmp 97) (.tmp 99) 23 (by rfl) rfl rfl rfl (CR2.out _) ?_
        refine hK _ _ trivial (fun _ _ => C.out.2.2) ?_
        clear hK K
        try simp only [Act.put, List.setIfInBounds_toArray, List.set_cons_zero, List.set_cons_succ]
        refine wpAnyS_ready [16] (by kernel_rfl) (by simp) ?_
        refine AllReadyS.cons ⟨some 101, .call { callee := .value (.func 19), args := #[.tmp 100], argTypes := #[23] }, _, _, _, none⟩ rfl (fun K hK => ?_) AllReadyS.nil
        go_simp
        go_at_call 19
        refine (arr19_ok _ _ _ _).mono ?_
        rintro e y3 ⟨rfl, hx3⟩
        have BX3 := Lib.hid hx3
        have BY3 := Lib.hid (C.out.2.2.trans (hx3.mono C.out.2.2.size))
        clear hx3
        try go_simp
        refine hK _ _ trivial (fun _ _ => BY3.out) ?_
        clear hK K
        try simp only [Act.put, List.setIfInBounds_toArray, List.set_cons_zero, List.set_cons_succ]
        refine wpAnyS_rest 17 (fun _ => trivial) rfl (by kernel_rfl) (by kernel_rfl) ?_
        simp only [List.drop_succ_cons, List.drop_zero]
        obtain ⟨⟨z0, z1, z2, z3, z4, z5, zc0, zc1, zc2, zc3, zc4, zc5⟩, zf⟩ := HST.out _ BY3.out
        go_wp2_with fail
        go_roundw
        case rel =>
          obtain ⟨xs', hfin⟩ := GMid.fin HWL.out HMID.out (by have := HLIM.out; unfold lim; omega) HREP.out C.out.2.1 C.out.2.2 BX3.out
          rw [HADD.out] at hfin
          exact ⟨k + 1, xs', by go_num, hlt, by rw [HQM.out]; exact hfin⟩
        case measure => simp [Go.RowKit.intOf]; omega
    · have hge : ¬ (k : Int) < l.length := by omega
      obtain rfl : k = l.length := by omega
      have HB4 := Lib.hid HG.out.bel
      have HR3 := Lib.hid (HR2.out.trans (HG.out.bel.mono HR2.out.size))
      have hgl := grpN_length (ordL l ks) (ordL ks ks) l.length
      have hge2 := grpN_each (ordL l ks) (ordL ks ks) (ordL_oks HP.out.okl) l.length
      have HN4 : Hid (JSl wr (With S W1.heap.size wr) ((grpN (ordL l ks) (ordL ks ks) l.length).map .arr) (.slice va ((grpN (ordL l ks) (ordL ks ks) l.length).map J.arr).length vc)) := Lib.hid (by
        have hown := HG.out.own
        rw [← List.length_map (f := J.arr)] at hown
        refine slice_of_own hown (HG.out.flat.keep (fun _ _ => rfl) (fun b h => ?_)) (by rw [List.length_map]; have := HLIM.out; unfold lim; omega) (fun b e => .inr ?_)
        · rcases h with h | h
          · exact h.imp_right fun q => ⟨q.1, Nat.lt_of_lt_of_le q.2 HB4.out.size⟩
          · exact .inr ⟨Nat.le_trans HR2.out.size h.1, h.2.1⟩
        · have := hown.lt b e
          exact ⟨Nat.le_trans HR2.out.size this.1, this.2⟩)
      have HOKN : Hid (J.arr ((grpN (ordL l ks) (ordL ks ks) l.length).map .arr)).ok := Lib.hid ⟨by rw [List.length_map]; have := HLIM.out; unfold lim; omega, (oks_iff _).2 fun x hx => by
        obtain ⟨g, hg, rfl⟩ := List.mem_map.1 hx
        exact ⟨by have := (hge2 g hg).1; have := HLIM.out; unfold lim; omega, (oks_iff _).2 (hge2 g hg).2⟩⟩
      clear hgl hge2
      have hln : ((grpN (ordL l ks) (ordL ks ks) l.length).map J.arr).length = (grpN (ordL l ks) (ordL ks ks) l.length).length := List.length_map _
      rw [← hln]
      clear hln
      generalize ((grpN (ordL l ks) (ordL ks ks) l.length).map J.arr).length = ln at *
      go_wp2_with (go_at_call 19; refine (arr19_ok _ _ _ _).mono ?_; rintro e w5 ⟨rfl, hx⟩; have HX5 := Lib.hid hx; have HR4 := Lib.hid (HR3.out.trans (hx.mono HR3.out.size)); clear hx; obtain ⟨y0, y1, y2, y3, y4, y5⟩ := (KEY.out _ HR4.out).2.2.2.c; have yf := (KEY.out _ HR4.out).2.2.2.f)
      have HZ := Lib.hid (set6_box (KEY.out _ HR4.out).2.2.2 (k' := 5) (h' := 0) (t' := ⟨#[]⟩) (r1 := .slice va ln vc) (r2 := .slice none 0 0) (r3 := .slice none 0 0)).c
      refine bodyPost_ret (w := set6 w5 (w.heap.size + 1 + 1) (.int .i64 5) (.int .i64 0) (.string ⟨#[]⟩) (.slice va ln vc) (.slice none 0 0) (.slice none 0 0)) (v := .tuple #[.agg #[.int .i64 5, .int .i64 0, .string ⟨#[]⟩, .slice va ln vc, .slice none 0 0, .slice none 0 0], .int .i64 0]) ?_ rfl ?_
      · obtain ⟨y0, y1, y2, y3, y4, y5⟩ := HZ.out
        simp [results, Tryz.results25, go_sem, y0, y1, y2, y3, y4, y5]
      · obtain ⟨q1, q2⟩ := by_same (w := w) (W1 := W1) (B := (w.heap.size + 1 + 1)) HS.out (by omega) (by omega) HR3.out.size HX5.out (.int .i64 5) (.int .i64 0) (.string ⟨#[]⟩) (.slice va ln vc) (.slice none 0 0) (.slice none 0 0)
        exact ⟨_, _, _, _, _, _, _, _, rfl, (KEY.out _ HR4.out).1.trans (below_set6 (by omega) _ _ _ _ _ _), jrep_arr ((HN4.out).keep q1 q2), HOKN.out, .inr ⟨rfl, rfl⟩⟩
end Go.Gj

/-
  spec.By and laws.told, for all five names alike.
-/
namespace Go.Gj
set_option linter.unusedSimpArgs false
set_option linter.unusedVariables false
set_option linter.unnecessarySimpa false
open Go Go.RowKit Go.Proofs

def nameBy : Nat → ByteArray
  | 0 => ⟨#[115, 111, 114, 116, 95, 98, 121]⟩
  | 1 => ⟨#[103, 114, 111, 117, 112, 95, 98, 121]⟩
  | 2 => ⟨#[117, 110, 105, 113, 117, 101, 95, 98, 121]⟩
  | 3 => ⟨#[109, 105, 110, 95, 98, 121]⟩
  | _ => ⟨#[109, 97, 120, 95, 98, 121]⟩

theorem By_all (l ks : List J) (H : Pair l ks) (i : Nat) (hi : i < 5) (w : World) (S : Nat → Prop) (hS : ∀ b, S b → b < w.heap.size) (a1 a2 : Option Addr) (c1 c2 : Nat) (ha : JSl w S l (.slice a1 l.length c1)) (hb : JSl w S ks (.slice a2 ks.length c2)) :
    Calls Tryz.prog 25 #[.string (nameBy i), .agg #[.int .i64 5, .int .i64 0, .string ⟨#[]⟩, .slice a1 l.length c1, .slice none 0 0, .slice none 0 0], .agg #[.int .i64 5, .int .i64 0, .string ⟨#[]⟩, .slice a2 ks.length c2, .slice none 0 0, .slice none 0 0]] w (ByRes w S (byJ l ks i)) := by
  match i, hi with
  | 0, _ => exact By_sort l ks H w S hS a1 a2 c1 c2 ha hb
  | 1, _ => exact By_group l ks H w S hS a1 a2 c1 c2 ha hb
  | 2, _ => exact By_unique l ks H w S hS a1 a2 c1 c2 ha hb
  | 3, _ => exact By_min l ks H w S hS a1 a2 c1 c2 ha hb
  | 4, _ => exact By_max l ks H w S hS a1 a2 c1 c2 ha hb

theorem agg6_one {w : World} {S : Nat → Prop} {x : J} {c0 c1 c2 c3 c4 c5 : Value} (h : JRep w S x (.agg #[c0, c1, c2, c3, c4, c5])) : ∀ u ∈ [c0, c1, c2, c3, c4, c5], u.oneCell' = true := by
  obtain ⟨rk, rh, rt, a1, n1, m1, a2, n2, m2, a3, n3, m3, rfl, rfl, rfl, rfl, rfl, rfl⟩ := h.shape6
  intro u hu
  simp at hu
  rcases hu with rfl | rfl | rfl | rfl | rfl | rfl <;> rfl

/-- laws.told of what the program answers and what spec.By does. -/
theorem told_by {x z : J} {how : Int} (w : World) (S : Nat → Prop) (c0 c1 c2 c3 c4 c5 d0 d1 d2 d3 d4 d5 : Value) (hz : z.ok) (hS : ∀ b, S b → b < w.heap.size) (ha : JRep w S x (.agg #[c0, c1, c2, c3, c4, c5])) (hb : JRep w S z (.agg #[d0, d1, d2, d3, d4, d5])) (h : how = 2 ∨ (how = 0 ∧ z = x)) :
    Calls Tryz.prog 26 #[.agg #[c0, c1, c2, c3, c4, c5, .int .i64 0], .agg #[d0, d1, d2, d3, d4, d5], .int .i64 how] w fun e w' => e = .returned (.bool true) ∧ Below w.heap.size w w' := by
  rcases h with rfl | ⟨rfl, rfl⟩
  · exact told_silent 0 w c0 c1 c2 c3 c4 c5 d0 d1 d2 d3 d4 d5 (agg6_one ha) (agg6_one hb)
  · refine (told_fine z z 0 w S c0 c1 c2 c3 c4 c5 _ hz hz hS ha hb (by decide)).mono ?_
    rintro e w' ⟨rfl, hx⟩
    exact ⟨by rw [cmpJ_self]; rfl, hx⟩

theorem arr_of {l : List V} {p : J} (h : V.mk 5 0 ⟨#[]⟩ l [] [] = p.toV) : ∃ q, p = .arr q ∧ l = J.toVs q := by
  rcases p with _ | (_ | _) | n | s | p | ⟨ks, vs⟩ <;> simp only [J.toV] at h
  all_goals first | (injection h with e1 e2 e3 e4 e5 e6; exact absurd e1 (by decide)) | skip
  injection h with e1 e2 e3 e4 e5 e6
  exact ⟨p, rfl, e4⟩

/-- A record that stands somewhere below. -/
def RX (w : World) (z : J) (v : Value) : Prop := ∃ S : Nat → Prop, JRep w S z v ∧ ∀ b, S b → b < w.heap.size
theorem RX.step {w w' : World} {z : J} {v : Value} (h : RX w z v) (hx : Below w.heap.size w w') : RX w' z v := by
  obtain ⟨S, h1, h2⟩ := h
  exact ⟨S, h1.keep (.of_below hx h2) (fun _ h => h), fun b hb => Nat.lt_of_lt_of_le (h2 b hb) hx.size⟩
theorem RX.all {w : World} {z : J} {v : Value} (h : RX w z v) : JRep w (allB w) z v := by
  obtain ⟨S, h1, h2⟩ := h
  exact h1.keep (fun _ _ => rfl) h2

/-- The answers so far, in a world behind w0. -/
structure ST (w0 w : World) (L : List (J × Value)) : Prop where
  bel : Below w0.heap.size w0 w
  reps : ∀ p ∈ L, RX w p.1 p.2
theorem ST.start (w0 : World) : ST w0 w0.drew [] := ⟨(Below.refl _ _).drew, fun _ h => by cases h⟩
theorem ST.over {w0 w w' : World} {L : List (J × Value)} (h : ST w0 w L) (hx : Below w.heap.size w w') : ST w0 w' L := ⟨h.bel.trans (hx.mono h.bel.size), fun p hp => (h.reps p hp).step hx⟩
theorem ST.alloc {w0 w : World} {L : List (J × Value)} (h : ST w0 w L) (o : Obj) : ST w0 (w.alloc o) L := h.over (below1 w o)
theorem ST.call {w0 w w' : World} {L : List (J × Value)} (h : ST w0 w L) (hx : Below w.heap.size w w') {z : J} {v : Value} (hj : JRep w' (since w.heap.size w') z v) : ST w0 w' (L ++ [(z, v)]) :=
  ⟨(h.over hx).bel, fun p hp => by
    rcases List.mem_append.1 hp with hp | hp
    · exact (h.over hx).reps p hp
    · simp at hp
      subst hp
      exact ⟨_, hj, fun b hb => hb.2⟩⟩

/-- The answers so far, and the array that they will be put in. -/
structure AL (w0 w : World) (L : List (J × Value)) (B : Nat) (o : Obj) : Prop where
  bel : Below w0.heap.size w0 w
  lo : w0.heap.size ≤ B
  lt : B < w.heap.size
  blk : w.heap[B]? = some o
  reps : ∀ p ∈ L, ∃ S : Nat → Prop, JRep w S p.1 p.2 ∧ (∀ b, S b → b < w.heap.size) ∧ ¬ S B
theorem AL.of {w0 w : World} {L : List (J × Value)} (h : ST w0 w L) (o : Obj) : AL w0 (w.alloc o) L w.heap.size o :=
  ⟨(h.alloc o).bel, h.bel.size, by rw [size_alloc]; omega, heap_alloc_new w o, fun p hp => by
    obtain ⟨S, h1, h2⟩ := h.reps p hp
    exact ⟨S, h1.keep (.of_below (below1 w o) h2) (fun _ h => h), fun b hb => by have := h2 b hb; rw [size_alloc]; omega, fun hb => Nat.lt_irrefl _ (h2 _ hb)⟩⟩
theorem AL.of' {w0 w u : World} {L : List (J × Value)} (h : ST w0 w L) (o : Obj) (hz : w.alloc o = u) : AL w0 u L w.heap.size o := hz ▸ AL.of h o
theorem RX.set {w : World} {z : J} {v : Value} {B : Nat} {S : Nat → Prop} (h : JRep w S z v) (hl : ∀ b, S b → b < w.heap.size) (hB : ¬ S B) (c0 c1 c2 c3 c4 c5 : Value) : RX (set6 w B c0 c1 c2 c3 c4 c5) z v :=
  ⟨S, h.keep (fun b hb => set6_other _ _ _ _ _ _ b (fun e => hB (e ▸ hb))) (fun _ h => h), fun b hb => by rw [set6_size]; exact hl b hb⟩
theorem alloc_facts {w u : World} {o : Obj} (hz : w.alloc o = u) : Below w.heap.size w u ∧ u.heap[w.heap.size]? = some o ∧ u.heap.size = w.heap.size + 1 := by
  subst hz
  exact ⟨below1 w o, heap_alloc_new w o, size_alloc w o⟩
theorem AL.call {w0 w w' : World} {L : List (J × Value)} {B : Nat} {o : Obj} (h : AL w0 w L B o) (hx : Below w.heap.size w w') {z : J} {v : Value} (hj : JRep w' (since w.heap.size w') z v) : AL w0 w' (L ++ [(z, v)]) B o :=
  ⟨h.bel.trans (hx.mono h.bel.size), h.lo, Nat.lt_of_lt_of_le h.lt hx.size, (hx.block _ h.lt).trans h.blk, fun p hp => by
    rcases List.mem_append.1 hp with hp | hp
    · obtain ⟨S, h1, h2, h3⟩ := h.reps p hp
      exact ⟨S, h1.keep (.of_below hx h2) (fun _ h => h), fun b hb => Nat.lt_of_lt_of_le (h2 b hb) hx.size, h3⟩
    · simp at hp
      subst hp
      exact ⟨_, hj, fun b hb => hb.2, fun hb => by have := hb.1; have := h.lt; omega⟩⟩
theorem AL.fin {w0 w : World} {L : List (J × Value)} {B : Nat} {old : Array Value} {t : TypeId} {fr : Nat × Nat} (h : AL w0 w L B (.cells old t fr)) (cs : Array Value) :
    Below w0.heap.size w0 (w.setRow B cs) ∧ (w.setRow B cs).heap[B]? = some (.cells cs t fr) ∧ B < (w.setRow B cs).heap.size ∧ ∀ p ∈ L, RX (w.setRow B cs) p.1 p.2 :=
  ⟨below_setRow h.bel h.lo cs, setRow_heap w B old cs t fr h.blk, by rw [size_setRow]; exact h.lt, fun p hp => by
    obtain ⟨S, h1, h2, h3⟩ := h.reps p hp
    exact ⟨S, h1.keep (fun b hb => setRow_other w B b cs (fun e => h3 (e ▸ hb))) (fun _ h => h), fun b hb => by rw [size_setRow]; exact h2 b hb⟩⟩
end Go.Gj
