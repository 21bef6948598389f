/-
  laws.FnBy. (Printed by wip/gen_lb.py.)
-/
import Derived.Test.YtnlndpgbhmkanaaGreatDoorWBy9
import Derived.Test.YtnlndpgbhmkanaaGreatDoorWBy5
import Derived.Test.YtnlndpgbhmkanaaGreatDoorRegT
namespace Go.Gj
set_option linter.unusedSimpArgs false
set_option linter.unusedVariables false
set_option linter.unnecessarySimpa false
open Go Go.RowKit Go.Proofs

theorem ones35 (k0 h0 : Int) (t0 : ByteArray) (a0 : Option Addr) (na0 ma0 : Nat) (b0 : Option Addr) (nb0 mb0 : Nat) (e0 : Option Addr) (ne0 me0 : Nat) (k1 h1 : Int) (t1 : ByteArray) (a1 : Option Addr) (na1 ma1 : Nat) (b1 : Option Addr) (nb1 mb1 : Nat) (e1 : Option Addr) (ne1 me1 : Nat) (k2 h2 : Int) (t2 : ByteArray) (a2 : Option Addr) (na2 ma2 : Nat) (b2 : Option Addr) (nb2 mb2 : Nat) (e2 : Option Addr) (ne2 me2 : Nat) (k3 h3 : Int) (t3 : ByteArray) (a3 : Option Addr) (na3 ma3 : Nat) (b3 : Option Addr) (nb3 mb3 : Nat) (e3 : Option Addr) (ne3 me3 : Nat) (k4 h4 : Int) (t4 : ByteArray) (a4 : Option Addr) (na4 ma4 : Nat) (b4 : Option Addr) (nb4 mb4 : Nat) (e4 : Option Addr) (ne4 me4 : Nat) : (#[.int .i64 k0, .int .i64 h0, .string t0, .slice a0 na0 ma0, .slice b0 nb0 mb0, .slice e0 ne0 me0, .int .i64 0, .int .i64 k1, .int .i64 h1, .string t1, .slice a1 na1 ma1, .slice b1 nb1 mb1, .slice e1 ne1 me1, .int .i64 0, .int .i64 k2, .int .i64 h2, .string t2, .slice a2 na2 ma2, .slice b2 nb2 mb2, .slice e2 ne2 me2, .int .i64 0, .int .i64 k3, .int .i64 h3, .string t3, .slice a3 na3 ma3, .slice b3 nb3 mb3, .slice e3 ne3 me3, .int .i64 0, .int .i64 k4, .int .i64 h4, .string t4, .slice a4 na4 ma4, .slice b4 nb4 mb4, .slice e4 ne4 me4, .int .i64 0] : Array Value).all (·.oneCell') = true := by
  simp [Value.oneCell']
theorem wp_index_run {P : Program} {w : World} {o : Oper} {a : Act} {K : Act → World → Prop} {Q : Exit → Act → World → Prop} (t : TypeId) (x i : Operand) (ho : o.op = .index t x i) {v iv r : Value} (hx : a.eval x = v) (hi : a.eval i = iv) (hr : (Instr.index t v iv).run P w = .ok r w) (h : K (a.put o.dst r) w) : o.wp P a w K Q := by
  unfold Oper.wp execOp
  simp only [ho, hx, hi, hr, Sem.run_bind, Sem.run_pure, Result.andThen_ok]
  exact h
set_option maxRecDepth 100000 in
theorem idx0 (k0 h0 : Int) (t0 : ByteArray) (a0 : Option Addr) (na0 ma0 : Nat) (b0 : Option Addr) (nb0 mb0 : Nat) (e0 : Option Addr) (ne0 me0 : Nat) (k1 h1 : Int) (t1 : ByteArray) (a1 : Option Addr) (na1 ma1 : Nat) (b1 : Option Addr) (nb1 mb1 : Nat) (e1 : Option Addr) (ne1 me1 : Nat) (k2 h2 : Int) (t2 : ByteArray) (a2 : Option Addr) (na2 ma2 : Nat) (b2 : Option Addr) (nb2 mb2 : Nat) (e2 : Option Addr) (ne2 me2 : Nat) (k3 h3 : Int) (t3 : ByteArray) (a3 : Option Addr) (na3 ma3 : Nat) (b3 : Option Addr) (nb3 mb3 : Nat) (e3 : Option Addr) (ne3 me3 : Nat) (k4 h4 : Int) (t4 : ByteArray) (a4 : Option Addr) (na4 ma4 : Nat) (b4 : Option Addr) (nb4 mb4 : Nat) (e4 : Option Addr) (ne4 me4 : Nat) (w : World) : (Instr.index 42 (.agg #[.int .i64 k0, .int .i64 h0, .string t0, .slice a0 na0 ma0, .slice b0 nb0 mb0, .slice e0 ne0 me0, .int .i64 0, .int .i64 k1, .int .i64 h1, .string t1, .slice a1 na1 ma1, .slice b1 nb1 mb1, .slice e1 ne1 me1, .int .i64 0, .int .i64 k2, .int .i64 h2, .string t2, .slice a2 na2 ma2, .slice b2 nb2 mb2, .slice e2 ne2 me2, .int .i64 0, .int .i64 k3, .int .i64 h3, .string t3, .slice a3 na3 ma3, .slice b3 nb3 mb3, .slice e3 ne3 me3, .int .i64 0, .int .i64 k4, .int .i64 h4, .string t4, .slice a4 na4 ma4, .slice b4 nb4 mb4, .slice e4 ne4 me4, .int .i64 0]) (.int .i64 0)).run Tryz.prog w = .ok (.agg #[.int .i64 k0, .int .i64 h0, .string t0, .slice a0 na0 ma0, .slice b0 nb0 mb0, .slice e0 ne0 me0, .int .i64 0]) w := by kernel_rfl
set_option maxRecDepth 100000 in
theorem idx1 (k0 h0 : Int) (t0 : ByteArray) (a0 : Option Addr) (na0 ma0 : Nat) (b0 : Option Addr) (nb0 mb0 : Nat) (e0 : Option Addr) (ne0 me0 : Nat) (k1 h1 : Int) (t1 : ByteArray) (a1 : Option Addr) (na1 ma1 : Nat) (b1 : Option Addr) (nb1 mb1 : Nat) (e1 : Option Addr) (ne1 me1 : Nat) (k2 h2 : Int) (t2 : ByteArray) (a2 : Option Addr) (na2 ma2 : Nat) (b2 : Option Addr) (nb2 mb2 : Nat) (e2 : Option Addr) (ne2 me2 : Nat) (k3 h3 : Int) (t3 : ByteArray) (a3 : Option Addr) (na3 ma3 : Nat) (b3 : Option Addr) (nb3 mb3 : Nat) (e3 : Option Addr) (ne3 me3 : Nat) (k4 h4 : Int) (t4 : ByteArray) (a4 : Option Addr) (na4 ma4 : Nat) (b4 : Option Addr) (nb4 mb4 : Nat) (e4 : Option Addr) (ne4 me4 : Nat) (w : World) : (Instr.index 42 (.agg #[.int .i64 k0, .int .i64 h0, .string t0, .slice a0 na0 ma0, .slice b0 nb0 mb0, .slice e0 ne0 me0, .int .i64 0, .int .i64 k1, .int .i64 h1, .string t1, .slice a1 na1 ma1, .slice b1 nb1 mb1, .slice e1 ne1 me1, .int .i64 0, .int .i64 k2, .int .i64 h2, .string t2, .slice a2 na2 ma2, .slice b2 nb2 mb2, .slice e2 ne2 me2, .int .i64 0, .int .i64 k3, .int .i64 h3, .string t3, .slice a3 na3 ma3, .slice b3 nb3 mb3, .slice e3 ne3 me3, .int .i64 0, .int .i64 k4, .int .i64 h4, .string t4, .slice a4 na4 ma4, .slice b4 nb4 mb4, .slice e4 ne4 me4, .int .i64 0]) (.int .i64 1)).run Tryz.prog w = .ok (.agg #[.int .i64 k1, .int .i64 h1, .string t1, .slice a1 na1 ma1, .slice b1 nb1 mb1, .slice e1 ne1 me1, .int .i64 0]) w := by kernel_rfl
set_option maxRecDepth 100000 in
theorem idx2 (k0 h0 : Int) (t0 : ByteArray) (a0 : Option Addr) (na0 ma0 : Nat) (b0 : Option Addr) (nb0 mb0 : Nat) (e0 : Option Addr) (ne0 me0 : Nat) (k1 h1 : Int) (t1 : ByteArray) (a1 : Option Addr) (na1 ma1 : Nat) (b1 : Option Addr) (nb1 mb1 : Nat) (e1 : Option Addr) (ne1 me1 : Nat) (k2 h2 : Int) (t2 : ByteArray) (a2 : Option Addr) (na2 ma2 : Nat) (b2 : Option Addr) (nb2 mb2 : Nat) (e2 : Option Addr) (ne2 me2 : Nat) (k3 h3 : Int) (t3 : ByteArray) (a3 : Option Addr) (na3 ma3 : Nat) (b3 : Option Addr) (nb3 mb3 : Nat) (e3 : Option Addr) (ne3 me3 : Nat) (k4 h4 : Int) (t4 : ByteArray) (a4 : Option Addr) (na4 ma4 : Nat) (b4 : Option Addr) (nb4 mb4 : Nat) (e4 : Option Addr) (ne4 me4 : Nat) (w : World) : (Instr.index 42 (.agg #[.int .i64 k0, .int .i64 h0, .string t0, .slice a0 na0 ma0, .slice b0 nb0 mb0, .slice e0 ne0 me0, .int .i64 0, .int .i64 k1, .int .i64 h1, .string t1, .slice a1 na1 ma1, .slice b1 nb1 mb1, .slice e1 ne1 me1, .int .i64 0, .int .i64 k2, .int .i64 h2, .string t2, .slice a2 na2 ma2, .slice b2 nb2 mb2, .slice e2 ne2 me2, .int .i64 0, .int .i64 k3, .int .i64 h3, .string t3, .slice a3 na3 ma3, .slice b3 nb3 mb3, .slice e3 ne3 me3, .int .i64 0, .int .i64 k4, .int .i64 h4, .string t4, .slice a4 na4 ma4, .slice b4 nb4 mb4, .slice e4 ne4 me4, .int .i64 0]) (.int .i64 2)).run Tryz.prog w = .ok (.agg #[.int .i64 k2, .int .i64 h2, .string t2, .slice a2 na2 ma2, .slice b2 nb2 mb2, .slice e2 ne2 me2, .int .i64 0]) w := by kernel_rfl
set_option maxRecDepth 100000 in
theorem idx3 (k0 h0 : Int) (t0 : ByteArray) (a0 : Option Addr) (na0 ma0 : Nat) (b0 : Option Addr) (nb0 mb0 : Nat) (e0 : Option Addr) (ne0 me0 : Nat) (k1 h1 : Int) (t1 : ByteArray) (a1 : Option Addr) (na1 ma1 : Nat) (b1 : Option Addr) (nb1 mb1 : Nat) (e1 : Option Addr) (ne1 me1 : Nat) (k2 h2 : Int) (t2 : ByteArray) (a2 : Option Addr) (na2 ma2 : Nat) (b2 : Option Addr) (nb2 mb2 : Nat) (e2 : Option Addr) (ne2 me2 : Nat) (k3 h3 : Int) (t3 : ByteArray) (a3 : Option Addr) (na3 ma3 : Nat) (b3 : Option Addr) (nb3 mb3 : Nat) (e3 : Option Addr) (ne3 me3 : Nat) (k4 h4 : Int) (t4 : ByteArray) (a4 : Option Addr) (na4 ma4 : Nat) (b4 : Option Addr) (nb4 mb4 : Nat) (e4 : Option Addr) (ne4 me4 : Nat) (w : World) : (Instr.index 42 (.agg #[.int .i64 k0, .int .i64 h0, .string t0, .slice a0 na0 ma0, .slice b0 nb0 mb0, .slice e0 ne0 me0, .int .i64 0, .int .i64 k1, .int .i64 h1, .string t1, .slice a1 na1 ma1, .slice b1 nb1 mb1, .slice e1 ne1 me1, .int .i64 0, .int .i64 k2, .int .i64 h2, .string t2, .slice a2 na2 ma2, .slice b2 nb2 mb2, .slice e2 ne2 me2, .int .i64 0, .int .i64 k3, .int .i64 h3, .string t3, .slice a3 na3 ma3, .slice b3 nb3 mb3, .slice e3 ne3 me3, .int .i64 0, .int .i64 k4, .int .i64 h4, .string t4, .slice a4 na4 ma4, .slice b4 nb4 mb4, .slice e4 ne4 me4, .int .i64 0]) (.int .i64 3)).run Tryz.prog w = .ok (.agg #[.int .i64 k3, .int .i64 h3, .string t3, .slice a3 na3 ma3, .slice b3 nb3 mb3, .slice e3 ne3 me3, .int .i64 0]) w := by kernel_rfl
set_option maxRecDepth 100000 in
theorem idx4 (k0 h0 : Int) (t0 : ByteArray) (a0 : Option Addr) (na0 ma0 : Nat) (b0 : Option Addr) (nb0 mb0 : Nat) (e0 : Option Addr) (ne0 me0 : Nat) (k1 h1 : Int) (t1 : ByteArray) (a1 : Option Addr) (na1 ma1 : Nat) (b1 : Option Addr) (nb1 mb1 : Nat) (e1 : Option Addr) (ne1 me1 : Nat) (k2 h2 : Int) (t2 : ByteArray) (a2 : Option Addr) (na2 ma2 : Nat) (b2 : Option Addr) (nb2 mb2 : Nat) (e2 : Option Addr) (ne2 me2 : Nat) (k3 h3 : Int) (t3 : ByteArray) (a3 : Option Addr) (na3 ma3 : Nat) (b3 : Option Addr) (nb3 mb3 : Nat) (e3 : Option Addr) (ne3 me3 : Nat) (k4 h4 : Int) (t4 : ByteArray) (a4 : Option Addr) (na4 ma4 : Nat) (b4 : Option Addr) (nb4 mb4 : Nat) (e4 : Option Addr) (ne4 me4 : Nat) (w : World) : (Instr.index 42 (.agg #[.int .i64 k0, .int .i64 h0, .string t0, .slice a0 na0 ma0, .slice b0 nb0 mb0, .slice e0 ne0 me0, .int .i64 0, .int .i64 k1, .int .i64 h1, .string t1, .slice a1 na1 ma1, .slice b1 nb1 mb1, .slice e1 ne1 me1, .int .i64 0, .int .i64 k2, .int .i64 h2, .string t2, .slice a2 na2 ma2, .slice b2 nb2 mb2, .slice e2 ne2 me2, .int .i64 0, .int .i64 k3, .int .i64 h3, .string t3, .slice a3 na3 ma3, .slice b3 nb3 mb3, .slice e3 ne3 me3, .int .i64 0, .int .i64 k4, .int .i64 h4, .string t4, .slice a4 na4 ma4, .slice b4 nb4 mb4, .slice e4 ne4 me4, .int .i64 0]) (.int .i64 4)).run Tryz.prog w = .ok (.agg #[.int .i64 k4, .int .i64 h4, .string t4, .slice a4 na4 ma4, .slice b4 nb4 mb4, .slice e4 ne4 me4, .int .i64 0]) w := by kernel_rfl

set_option maxHeartbeats 40000000 in
set_option maxRecDepth 100000 in
/-- laws.FnBy: it answers true. -/
theorem FnBy_ok (l m : List V) (w : World) (S : Nat → Prop) (va vb : Value) (hT : Tabs w) (hS : ∀ b, S b → b < w.heap.size) (ha : SlOf S l.length (fun b o => VCells w S b l o) va) (hb : SlOf S m.length (fun b o => VCells w S b m o) vb) :
    Calls Tryz.prog 4 #[va, vb] w fun e w' => e = .returned (.bool true) ∧ Below w.heap.size w w' := by
  have ha0 := ha
  obtain ⟨pa, pc, rfl, hpn, -⟩ := ha0
  have hb0 := hb
  obtain ⟨qa, qc, rfl, hqn, -⟩ := hb0
  have HP := Lib.hid (pairs_ok l m w S hT hS pa qa pc qc ha hb)
  have HA := Lib.hid (And.intro hS (And.intro ha hb))
  have HR0 := Lib.hid (Below.refl w.heap.size w)
  clear ha hb hT hS
  unfold mostLen at hpn hqn
  by_cases hbig : (l.length : Int) > 2147483647
  · have hb' : decide ((2147483647 : Int) < (l.length : Int)) = true := by simp; omega
    clear hbig
    go_enter Tryz.func4, Tryz.ntmps4
    go_wp2_with fail
    exact bodyPost_ret (v := .bool true) (by simp [results, Tryz.results4, go_sem]) rfl ⟨rfl, HR0.out⟩
  have hb1 : decide ((2147483647 : Int) < (l.length : Int)) = false := by simp; omega
  clear hbig
  by_cases hbig : (m.length : Int) > 2147483647
  · have hb' : decide ((2147483647 : Int) < (m.length : Int)) = true := by simp; omega
    clear hbig
    go_enter Tryz.func4, Tryz.ntmps4
    go_wp2_with fail
    exact bodyPost_ret (v := .bool true) (by simp [results, Tryz.results4, go_sem]) rfl ⟨rfl, HR0.out⟩
  have hb2 : decide ((2147483647 : Int) < (m.length : Int)) = false := by simp; omega
  clear hbig
  go_enter Tryz.func4, Tryz.ntmps4
  go_upto_region 5 with (go_at_call 18; (with_reducible refine HP.out.mono ?_); rintro e w1 ⟨r, rfl, hx, hr⟩; have HR1 := Lib.hid hx; have HRR := Lib.hid hr; clear hx hr; cases r)
  · exact bodyPost_ret (v := .bool true) (by simp [results, Tryz.results4, go_sem]) rfl ⟨rfl, HR1.out⟩
  obtain ⟨lj, kj, H, e1, e2, hj1, hj2⟩ : ∃ lj kj, Pair lj kj ∧ l.length = lj.length ∧ m.length = kj.length ∧ JSl w S lj (.slice pa lj.length pc) ∧ JSl w S kj (.slice qa kj.length qc) := by
    obtain ⟨hlen, p, q, hpo, hqo, e1, e2⟩ := HRR.out (by simp)
    obtain ⟨lj, rfl, rfl⟩ := arr_of e1
    obtain ⟨kj, rfl, rfl⟩ := arr_of e2
    have ha := HA.out.2.1
    have hb := HA.out.2.2
    rw [toVs_length] at hlen ha hb
    rw [toVs_length] at hlen
    exact ⟨lj, kj, Pair.of hpo hqo hlen.symm, toVs_length _, toVs_length _, ha, hb⟩
  rw [e1, e2]
  have HPR := Lib.hid H
  have HJ : Hid (∀ wx, Below w.heap.size w wx → (∀ b, S b → b < wx.heap.size) ∧ JSl wx S lj (.slice pa lj.length pc) ∧ JSl wx S kj (.slice qa kj.length qc)) := Lib.hid (by
    have hS := HA.out.1
    exact fun wx hx => ⟨lt_below hx hS, hj1.keep (.of_below hx hS) (fun _ h => h), hj2.keep (.of_below hx hS) (fun _ h => h)⟩)
  clear e1 e2 hj1 hj2 H hb1 hb2 hpn hqn HRR HP HA
  go_upto_region 7 with (first | (go_at_call 19; (with_reducible refine (arr19_ok pa lj.length pc _).mono ?_); rintro e w2 ⟨rfl, hx⟩; have HR2 := Lib.hid (HR1.out.trans (hx.mono HR1.out.size)); clear hx) | (go_at_call 19; (with_reducible refine (arr19_ok qa kj.length qc _).mono ?_); rintro e w3 ⟨rfl, hx⟩; have HR3 := Lib.hid (HR2.out.trans (hx.mono HR2.out.size)); clear hx))
  have hB0 := below3 w3 (.cells #[.int .i64 5, .int .i64 0, .string ⟨#[]⟩, .slice pa lj.length pc, .slice none 0 0, .slice none 0 0] 26) (.cells #[.int .i64 5, .int .i64 0, .string ⟨#[]⟩, .slice qa kj.length qc, .slice none 0 0, .slice none 0 0] 26) (.cells #[.string ⟨#[115, 111, 114, 116, 95, 98, 121]⟩, .string ⟨#[103, 114, 111, 117, 112, 95, 98, 121]⟩, .string ⟨#[117, 110, 105, 113, 117, 101, 95, 98, 121]⟩, .string ⟨#[109, 105, 110, 95, 98, 121]⟩, .string ⟨#[109, 97, 120, 95, 98, 121]⟩] 41)
  have e1 : (w3.alloc (.cells #[.int .i64 5, .int .i64 0, .string ⟨#[]⟩, .slice pa lj.length pc, .slice none 0 0, .slice none 0 0] 26)).heap.size = w3.heap.size + 1 := size_alloc _ _
  have e2 : ((w3.alloc (.cells #[.int .i64 5, .int .i64 0, .string ⟨#[]⟩, .slice pa lj.length pc, .slice none 0 0, .slice none 0 0] 26)).alloc (.cells #[.int .i64 5, .int .i64 0, .string ⟨#[]⟩, .slice qa kj.length qc, .slice none 0 0, .slice none 0 0] 26)).heap.size = w3.heap.size + 2 := by rw [size_alloc, e1]
  have e3 : (((w3.alloc (.cells #[.int .i64 5, .int .i64 0, .string ⟨#[]⟩, .slice pa lj.length pc, .slice none 0 0, .slice none 0 0] 26)).alloc (.cells #[.int .i64 5, .int .i64 0, .string ⟨#[]⟩, .slice qa kj.length qc, .slice none 0 0, .slice none 0 0] 26)).alloc (.cells #[.string ⟨#[115, 111, 114, 116, 95, 98, 121]⟩, .string ⟨#[103, 114, 111, 117, 112, 95, 98, 121]⟩, .string ⟨#[117, 110, 105, 113, 117, 101, 95, 98, 121]⟩, .string ⟨#[109, 105, 110, 95, 98, 121]⟩, .string ⟨#[109, 97, 120, 95, 98, 121]⟩] 41)).heap.size = w3.heap.size + 3 := by rw [size_alloc, e2]
  have q1 := Box.new w3 5 0 ⟨#[]⟩ (.slice pa lj.length pc) (.slice none 0 0) (.slice none 0 0)
  have q2 := Box.new (w3.alloc (.cells #[.int .i64 5, .int .i64 0, .string ⟨#[]⟩, .slice pa lj.length pc, .slice none 0 0, .slice none 0 0] 26)) 5 0 ⟨#[]⟩ (.slice qa kj.length qc) (.slice none 0 0) (.slice none 0 0)
  have q3 := heap_alloc_new ((w3.alloc (.cells #[.int .i64 5, .int .i64 0, .string ⟨#[]⟩, .slice pa lj.length pc, .slice none 0 0, .slice none 0 0] 26)).alloc (.cells #[.int .i64 5, .int .i64 0, .string ⟨#[]⟩, .slice qa kj.length qc, .slice none 0 0, .slice none 0 0] 26)) (.cells #[.string ⟨#[115, 111, 114, 116, 95, 98, 121]⟩, .string ⟨#[103, 114, 111, 117, 112, 95, 98, 121]⟩, .string ⟨#[117, 110, 105, 113, 117, 101, 95, 98, 121]⟩, .string ⟨#[109, 105, 110, 95, 98, 121]⟩, .string ⟨#[109, 97, 120, 95, 98, 121]⟩] 41)
  rw [e1] at q2
  rw [e2] at q3
  replace q1 := ((Below.heap_alloc ((w3.alloc (.cells #[.int .i64 5, .int .i64 0, .string ⟨#[]⟩, .slice pa lj.length pc, .slice none 0 0, .slice none 0 0] 26)).alloc (.cells #[.int .i64 5, .int .i64 0, .string ⟨#[]⟩, .slice qa kj.length qc, .slice none 0 0, .slice none 0 0] 26)) (.cells #[.string ⟨#[115, 111, 114, 116, 95, 98, 121]⟩, .string ⟨#[103, 114, 111, 117, 112, 95, 98, 121]⟩, .string ⟨#[117, 110, 105, 113, 117, 101, 95, 98, 121]⟩, .string ⟨#[109, 105, 110, 95, 98, 121]⟩, .string ⟨#[109, 97, 120, 95, 98, 121]⟩] 41) w3.heap.size (by rw [e2]; omega)).trans ((Below.heap_alloc (w3.alloc (.cells #[.int .i64 5, .int .i64 0, .string ⟨#[]⟩, .slice pa lj.length pc, .slice none 0 0, .slice none 0 0] 26)) (.cells #[.int .i64 5, .int .i64 0, .string ⟨#[]⟩, .slice qa kj.length qc, .slice none 0 0, .slice none 0 0] 26) w3.heap.size (by rw [e1]; omega)))).trans q1
  replace q2 := (Below.heap_alloc ((w3.alloc (.cells #[.int .i64 5, .int .i64 0, .string ⟨#[]⟩, .slice pa lj.length pc, .slice none 0 0, .slice none 0 0] 26)).alloc (.cells #[.int .i64 5, .int .i64 0, .string ⟨#[]⟩, .slice qa kj.length qc, .slice none 0 0, .slice none 0 0] 26)) (.cells #[.string ⟨#[115, 111, 114, 116, 95, 98, 121]⟩, .string ⟨#[103, 114, 111, 117, 112, 95, 98, 121]⟩, .string ⟨#[117, 110, 105, 113, 117, 101, 95, 98, 121]⟩, .string ⟨#[109, 105, 110, 95, 98, 121]⟩, .string ⟨#[109, 97, 120, 95, 98, 121]⟩] 41) (w3.heap.size + 1) (by rw [e2]; omega)).trans q2
  have HQ := Lib.hid (And.intro (HR3.out.trans (hB0.mono HR3.out.size)) (And.intro e3 (And.intro q1 (And.intro q2 q3))))
  clear hB0 e1 e2 e3 q1 q2 q3
  generalize (((w3.alloc (.cells #[.int .i64 5, .int .i64 0, .string ⟨#[]⟩, .slice pa lj.length pc, .slice none 0 0, .slice none 0 0] 26)).alloc (.cells #[.int .i64 5, .int .i64 0, .string ⟨#[]⟩, .slice qa kj.length qc, .slice none 0 0, .slice none 0 0] 26)).alloc (.cells #[.string ⟨#[115, 111, 114, 116, 95, 98, 121]⟩, .string ⟨#[103, 114, 111, 117, 112, 95, 98, 121]⟩, .string ⟨#[117, 110, 105, 113, 117, 101, 95, 98, 121]⟩, .string ⟨#[109, 105, 110, 95, 98, 121]⟩, .string ⟨#[109, 97, 120, 95, 98, 121]⟩] 41)) = W7 at *
  have hsz := HQ.out.2.1
  have KEY : Hid (∀ wx, Below W7.heap.size W7 wx → Below w.heap.size w wx ∧ Box wx w3.heap.size 5 0 ⟨#[]⟩ (.slice pa lj.length pc) (.slice none 0 0) (.slice none 0 0) ∧ Box wx (w3.heap.size + 1) 5 0 ⟨#[]⟩ (.slice qa kj.length qc) (.slice none 0 0) (.slice none 0 0) ∧ wx.heap[w3.heap.size + 1 + 1]? = some (.cells #[.string ⟨#[115, 111, 114, 116, 95, 98, 121]⟩, .string ⟨#[103, 114, 111, 117, 112, 95, 98, 121]⟩, .string ⟨#[117, 110, 105, 113, 117, 101, 95, 98, 121]⟩, .string ⟨#[109, 105, 110, 95, 98, 121]⟩, .string ⟨#[109, 97, 120, 95, 98, 121]⟩] 41)) := Lib.hid fun wx hx =>
    ⟨HQ.out.1.trans (hx.mono HQ.out.1.size), (hx.block _ (by omega)).trans HQ.out.2.2.1, (hx.block _ (by omega)).trans HQ.out.2.2.2.1, (hx.block _ (by omega)).trans HQ.out.2.2.2.2⟩
  have HCELL : Hid (∀ wx, Below W7.heap.size W7 wx → (wx.cell? ⟨w3.heap.size, 0, none⟩ = some (.int .i64 5) ∧ wx.cell? ⟨w3.heap.size, 1, none⟩ = some (.int .i64 0) ∧ wx.cell? ⟨w3.heap.size, 2, none⟩ = some (.string ⟨#[]⟩) ∧ wx.cell? ⟨w3.heap.size, 3, none⟩ = some (.slice pa lj.length pc) ∧ wx.cell? ⟨w3.heap.size, 4, none⟩ = some (.slice none 0 0) ∧ wx.cell? ⟨w3.heap.size, 5, none⟩ = some (.slice none 0 0)) ∧ wx.cell? ⟨w3.heap.size + 1, 0, none⟩ = some (.int .i64 5) ∧ wx.cell? ⟨w3.heap.size + 1, 1, none⟩ = some (.int .i64 0) ∧ wx.cell? ⟨w3.heap.size + 1, 2, none⟩ = some (.string ⟨#[]⟩) ∧ wx.cell? ⟨w3.heap.size + 1, 3, none⟩ = some (.slice qa kj.length qc) ∧ wx.cell? ⟨w3.heap.size + 1, 4, none⟩ = some (.slice none 0 0) ∧ wx.cell? ⟨w3.heap.size + 1, 5, none⟩ = some (.slice none 0 0)) := Lib.hid fun wx hx => ⟨(KEY.out _ hx).2.1.c, (KEY.out _ hx).2.2.1.c⟩
  have HC0 := Lib.hid (fun wx (hx : Below W7.heap.size W7 wx) => SortBy_is HPR.out wx S (HJ.out _ (KEY.out _ hx).1).1 _ _ (jrep_arr (HJ.out _ (KEY.out _ hx).1).2.1) (jrep_arr (HJ.out _ (KEY.out _ hx).1).2.2))
  have HC1 := Lib.hid (fun wx (hx : Below W7.heap.size W7 wx) => GroupBy_is HPR.out wx S (HJ.out _ (KEY.out _ hx).1).1 _ _ (jrep_arr (HJ.out _ (KEY.out _ hx).1).2.1) (jrep_arr (HJ.out _ (KEY.out _ hx).1).2.2))
  have HC2 := Lib.hid (fun wx (hx : Below W7.heap.size W7 wx) => UniqueBy_is HPR.out wx S (HJ.out _ (KEY.out _ hx).1).1 _ _ (jrep_arr (HJ.out _ (KEY.out _ hx).1).2.1) (jrep_arr (HJ.out _ (KEY.out _ hx).1).2.2))
  have HC3 := Lib.hid (fun wx (hx : Below W7.heap.size W7 wx) => MinBy_is HPR.out wx S (HJ.out _ (KEY.out _ hx).1).1 _ _ (jrep_arr (HJ.out _ (KEY.out _ hx).1).2.1) (jrep_arr (HJ.out _ (KEY.out _ hx).1).2.2))
  have HC4 := Lib.hid (fun wx (hx : Below W7.heap.size W7 wx) => MaxBy_is HPR.out wx S (HJ.out _ (KEY.out _ hx).1).1 _ _ (jrep_arr (HJ.out _ (KEY.out _ hx).1).2.1) (jrep_arr (HJ.out _ (KEY.out _ hx).1).2.2))
  have HS0 := Lib.hid (ST.start W7)
  clear hsz
  go_cut [8] (fun v8 wx => ∃ B8 k0 h0 t0 a0 na0 ma0 b0 nb0 mb0 e0 ne0 me0 k1 h1 t1 a1 na1 ma1 b1 nb1 mb1 e1 ne1 me1 k2 h2 t2 a2 na2 ma2 b2 nb2 mb2 e2 ne2 me2 k3 h3 t3 a3 na3 ma3 b3 nb3 mb3 e3 ne3 me3 k4 h4 t4 a4 na4 ma4 b4 nb4 mb4 e4 ne4 me4, v8 = .pointer (some ⟨B8, 0, none⟩) ∧ wx.heap[B8]? = some (.cells #[.int .i64 k0, .int .i64 h0, .string t0, .slice a0 na0 ma0, .slice b0 nb0 mb0, .slice e0 ne0 me0, .int .i64 0, .int .i64 k1, .int .i64 h1, .string t1, .slice a1 na1 ma1, .slice b1 nb1 mb1, .slice e1 ne1 me1, .int .i64 0, .int .i64 k2, .int .i64 h2, .string t2, .slice a2 na2 ma2, .slice b2 nb2 mb2, .slice e2 ne2 me2, .int .i64 0, .int .i64 k3, .int .i64 h3, .string t3, .slice a3 na3 ma3, .slice b3 nb3 mb3, .slice e3 ne3 me3, .int .i64 0, .int .i64 k4, .int .i64 h4, .string t4, .slice a4 na4 ma4, .slice b4 nb4 mb4, .slice e4 ne4 me4, .int .i64 0] 42 (0, 0)) ∧ B8 < wx.heap.size ∧ Below W7.heap.size W7 wx ∧ RX wx (byJ lj kj 0) (.agg #[.int .i64 k0, .int .i64 h0, .string t0, .slice a0 na0 ma0, .slice b0 nb0 mb0, .slice e0 ne0 me0]) ∧ RX wx (byJ lj kj 1) (.agg #[.int .i64 k1, .int .i64 h1, .string t1, .slice a1 na1 ma1, .slice b1 nb1 mb1, .slice e1 ne1 me1]) ∧ RX wx (byJ lj kj 2) (.agg #[.int .i64 k2, .int .i64 h2, .string t2, .slice a2 na2 ma2, .slice b2 nb2 mb2, .slice e2 ne2 me2]) ∧ RX wx (byJ lj kj 3) (.agg #[.int .i64 k3, .int .i64 h3, .string t3, .slice a3 na3 ma3, .slice b3 nb3 mb3, .slice e3 ne3 me3]) ∧ RX wx (byJ lj kj 4) (.agg #[.int .i64 k4, .int .i64 h4, .string t4, .slice a4 na4 ma4, .slice b4 nb4 mb4, .slice e4 ne4 me4]))
  case first =>
    refine wp_region_S (fun i => decide (17 ≤ i)) (fun w4 => Below W7.heap.size W7 w4) (fun _ => True) (by kernel_rfl) ?_
    refine wpAnyS_takeU 0 ⟨some 30, .load 26 (.tmp 5), _, _, _, none⟩ (v := ?_) rfl (by kernel_rfl) (by kernel_rfl) (by kernel_rfl) (by kernel_rfl) (by kernel_rfl) (fun _ _ _ h => h) (Or.inl ⟨by rfl, ?_⟩) ⟨trivial, HS0.out.bel⟩ ?_
    rotate_left
    · (intro x hx; obtain ⟨-, hs⟩ := hx; obtain ⟨⟨x0, x1, x2, x3, x4, x5⟩, y0, y1, y2, y3, y4, y5⟩ := HCELL.out _ hs; go_simp; try with_reducible rfl)
    try simp only [Act.put, List.setIfInBounds_toArray, List.set_cons_zero, List.set_cons_succ]
    refine wpAnyS_takeU 1 ⟨some 31, .load 26 (.tmp 6), _, _, _, none⟩ (v := ?_) rfl (by kernel_rfl) (by kernel_rfl) (by kernel_rfl) (by kernel_rfl) (by kernel_rfl) (fun _ _ _ h => h) (Or.inl ⟨by rfl, ?_⟩) ⟨trivial, HS0.out.bel⟩ ?_
    rotate_left
    · (intro x hx; obtain ⟨-, hs⟩ := hx; obtain ⟨⟨x0, x1, x2, x3, x4, x5⟩, y0, y1, y2, y3, y4, y5⟩ := HCELL.out _ hs; go_simp; try with_reducible rfl)
    try simp only [Act.put, List.setIfInBounds_toArray, List.set_cons_zero, List.set_cons_succ]
    refine wpAnyS_takeU 3 ⟨some 33, .load 26 (.tmp 5), _, _, _, none⟩ (v := ?_) rfl (by kernel_rfl) (by kernel_rfl) (by kernel_rfl) (by kernel_rfl) (by kernel_rfl) (fun _ _ _ h => h) (Or.inl ⟨by rfl, ?_⟩) ⟨trivial, HS0.out.bel⟩ ?_
    rotate_left
    · (intro x hx; obtain ⟨-, hs⟩ := hx; obtain ⟨⟨x0, x1, x2, x3, x4, x5⟩, y0, y1, y2, y3, y4, y5⟩ := HCELL.out _ hs; go_simp; try with_reducible rfl)
    try simp only [Act.put, List.setIfInBounds_toArray, List.set_cons_zero, List.set_cons_succ]
    refine wpAnyS_takeU 4 ⟨some 34, .load 26 (.tmp 6), _, _, _, none⟩ (v := ?_) rfl (by kernel_rfl) (by kernel_rfl) (by kernel_rfl) (by kernel_rfl) (by kernel_rfl) (fun _ _ _ h => h) (Or.inl ⟨by rfl, ?_⟩) ⟨trivial, HS0.out.bel⟩ ?_
    rotate_left
    · (intro x hx; obtain ⟨-, hs⟩ := hx; obtain ⟨⟨x0, x1, x2, x3, x4, x5⟩, y0, y1, y2, y3, y4, y5⟩ := HCELL.out _ hs; go_simp; try with_reducible rfl)
    try simp only [Act.put, List.setIfInBounds_toArray, List.set_cons_zero, List.set_cons_succ]
    refine wpAnyS_takeU 6 ⟨some 36, .load 26 (.tmp 5), _, _, _, none⟩ (v := ?_) rfl (by kernel_rfl) (by kernel_rfl) (by kernel_rfl) (by kernel_rfl) (by kernel_rfl) (fun _ _ _ h => h) (Or.inl ⟨by rfl, ?_⟩) ⟨trivial, HS0.out.bel⟩ ?_
    rotate_left
    · (intro x hx; obtain ⟨-, hs⟩ := hx; obtain ⟨⟨x0, x1, x2, x3, x4, x5⟩, y0, y1, y2, y3, y4, y5⟩ := HCELL.out _ hs; go_simp; try with_reducible rfl)
    try simp only [Act.put, List.setIfInBounds_toArray, List.set_cons_zero, List.set_cons_succ]
    refine wpAnyS_takeU 7 ⟨some 37, .load 26 (.tmp 6), _, _, _, none⟩ (v := ?_) rfl (by kernel_rfl) (by kernel_rfl) (by kernel_rfl) (by kernel_rfl) (by kernel_rfl) (fun _ _ _ h => h) (Or.inl ⟨by rfl, ?_⟩) ⟨trivial, HS0.out.bel⟩ ?_
    rotate_left
    · (intro x hx; obtain ⟨-, hs⟩ := hx; obtain ⟨⟨x0, x1, x2, x3, x4, x5⟩, y0, y1, y2, y3, y4, y5⟩ := HCELL.out _ hs; go_simp; try with_reducible rfl)
    try simp only [Act.put, List.setIfInBounds_toArray, List.set_cons_zero, List.set_cons_succ]
    refine wpAnyS_takeU 9 ⟨some 39, .load 26 (.tmp 5), _, _, _, none⟩ (v := ?_) rfl (by kernel_rfl) (by kernel_rfl) (by kernel_rfl) (by kernel_rfl) (by kernel_rfl) (fun _ _ _ h => h) (Or.inl ⟨by rfl, ?_⟩) ⟨trivial, HS0.out.bel⟩ ?_
    rotate_left
    · (intro x hx; obtain ⟨-, hs⟩ := hx; obtain ⟨⟨x0, x1, x2, x3, x4, x5⟩, y0, y1, y2, y3, y4, y5⟩ := HCELL.out _ hs; go_simp; try with_reducible rfl)
    try simp only [Act.put, List.setIfInBounds_toArray, List.set_cons_zero, List.set_cons_succ]
    refine wpAnyS_takeU 10 ⟨some 40, .load 26 (.tmp 6), _, _, _, none⟩ (v := ?_) rfl (by kernel_rfl) (by kernel_rfl) (by kernel_rfl) (by kernel_rfl) (by kernel_rfl) (fun _ _ _ h => h) (Or.inl ⟨by rfl, ?_⟩) ⟨trivial, HS0.out.bel⟩ ?_
    rotate_left
    · (intro x hx; obtain ⟨-, hs⟩ := hx; obtain ⟨⟨x0, x1, x2, x3, x4, x5⟩, y0, y1, y2, y3, y4, y5⟩ := HCELL.out _ hs; go_simp; try with_reducible rfl)
    try simp only [Act.put, List.setIfInBounds_toArray, List.set_cons_zero, List.set_cons_succ]
    refine wpAnyS_takeU 12 ⟨some 42, .load 26 (.tmp 5), _, _, _, none⟩ (v := ?_) rfl (by kernel_rfl) (by kernel_rfl) (by kernel_rfl) (by kernel_rfl) (by kernel_rfl) (fun _ _ _ h => h) (Or.inl ⟨by rfl, ?_⟩) ⟨trivial, HS0.out.bel⟩ ?_
    rotate_left
    · (intro x hx; obtain ⟨-, hs⟩ := hx; obtain ⟨⟨x0, x1, x2, x3, x4, x5⟩, y0, y1, y2, y3, y4, y5⟩ := HCELL.out _ hs; go_simp; try with_reducible rfl)
    try simp only [Act.put, List.setIfInBounds_toArray, List.set_cons_zero, List.set_cons_succ]
    refine wpAnyS_takeU 13 ⟨some 43, .load 26 (.tmp 6), _, _, _, none⟩ (v := ?_) rfl (by kernel_rfl) (by kernel_rfl) (by kernel_rfl) (by kernel_rfl) (by kernel_rfl) (fun _ _ _ h => h) (Or.inl ⟨by rfl, ?_⟩) ⟨trivial, HS0.out.bel⟩ ?_
    rotate_left
    · (intro x hx; obtain ⟨-, hs⟩ := hx; obtain ⟨⟨x0, x1, x2, x3, x4, x5⟩, y0, y1, y2, y3, y4, y5⟩ := HCELL.out _ hs; go_simp; try with_reducible rfl)
    try simp only [Act.put, List.setIfInBounds_toArray, List.set_cons_zero, List.set_cons_succ]
    refine wpAnyS_ready [2, 16] (by kernel_rfl) (by simp) ?_
    refine AllReadyS.cons ⟨some 32, .call { callee := .value (.func 20), args := #[.tmp 30, .tmp 31], argTypes := #[26, 26] }, _, _, _, none⟩ rfl (fun K hK => ?_) (AllReadyS.cons ⟨some 8, .alloc 42, _, _, _, none⟩ rfl (fun K hK => ?_) AllReadyS.nil)
    · go_simp
      go_at_call 20
      (with_reducible refine (HC0.out _ HS0.out.bel).mono ?_)
      rintro e u2 ⟨c0, c1, c2, c3, c4, c5, en, x, rfl, hx, hj, hres⟩
      obtain ⟨rfl, rfl⟩ := hres
      obtain ⟨k0, h0, t0, a0, na0, ma0, b0, nb0, mb0, e0, ne0, me0, rfl, rfl, rfl, rfl, rfl, rfl⟩ := hj.shape6
      have HS1 := Lib.hid (HS0.out.call hx hj)
      clear hx hj
      try go_simp
      refine hK _ _ trivial (fun _ _ => HS1.out.bel) ?_
      clear hK K
      try simp only [Act.put, List.setIfInBounds_toArray, List.set_cons_zero, List.set_cons_succ]
      refine wpAnyS_ready [5, 16] (by kernel_rfl) (by simp) ?_
      refine AllReadyS.cons ⟨some 35, .call { callee := .value (.func 21), args := #[.tmp 33, .tmp 34], argTypes := #[26, 26] }, _, _, _, none⟩ rfl (fun K hK => ?_) (AllReadyS.cons ⟨some 8, .alloc 42, _, _, _, none⟩ rfl (fun K hK => ?_) AllReadyS.nil)
      · go_simp
        go_at_call 21
        (with_reducible refine (HC1.out _ HS1.out.bel).mono ?_)
        rintro e u4 ⟨c0, c1, c2, c3, c4, c5, en, x, rfl, hx, hj, hres⟩
        obtain ⟨rfl, rfl⟩ := hres
        obtain ⟨k1, h1, t1, a1, na1, ma1, b1, nb1, mb1, e1, ne1, me1, rfl, rfl, rfl, rfl, rfl, rfl⟩ := hj.shape6
        have HS3 := Lib.hid (HS1.out.call hx hj)
        clear hx hj
        try go_simp
        refine hK _ _ trivial (fun _ _ => HS3.out.bel) ?_
        clear hK K
        try simp only [Act.put, List.setIfInBounds_toArray, List.set_cons_zero, List.set_cons_succ]
        refine wpAnyS_ready [8, 16] (by kernel_rfl) (by simp) ?_
        refine AllReadyS.cons ⟨some 38, .call { callee := .value (.func 22), args := #[.tmp 36, .tmp 37], argTypes := #[26, 26] }, _, _, _, none⟩ rfl (fun K hK => ?_) (AllReadyS.cons ⟨some 8, .alloc 42, _, _, _, none⟩ rfl (fun K hK => ?_) AllReadyS.nil)
        · go_simp
          go_at_call 22
          (with_reducible refine (HC2.out _ HS3.out.bel).mono ?_)
          rintro e u6 ⟨c0, c1, c2, c3, c4, c5, en, x, rfl, hx, hj, hres⟩
          obtain ⟨rfl, rfl⟩ := hres
          obtain ⟨k2, h2, t2, a2, na2, ma2, b2, nb2, mb2, e2, ne2, me2, rfl, rfl, rfl, rfl, rfl, rfl⟩ := hj.shape6
          have HS5 := Lib.hid (HS3.out.call hx hj)
          clear hx hj
          try go_simp
          refine hK _ _ trivial (fun _ _ => HS5.out.bel) ?_
          clear hK K
          try simp only [Act.put, List.setIfInBounds_toArray, List.set_cons_zero, List.set_cons_succ]
          refine wpAnyS_ready [11, 16] (by kernel_rfl) (by simp) ?_
          refine AllReadyS.cons ⟨some 41, .call { callee := .value (.func 23), args := #[.tmp 39, .tmp 40], argTypes := #[26, 26] }, _, _, _, none⟩ rfl (fun K hK => ?_) (AllReadyS.cons ⟨some 8, .alloc 42, _, _, _, none⟩ rfl (fun K hK => ?_) AllReadyS.nil)
          · go_simp
            go_at_call 23
            (with_reducible refine (HC3.out _ HS5.out.bel).mono ?_)
            rintro e u8 ⟨c0, c1, c2, c3, c4, c5, en, x, rfl, hx, hj, hres⟩
            obtain ⟨rfl, rfl⟩ := hres
            obtain ⟨k3, h3, t3, a3, na3, ma3, b3, nb3, mb3, e3, ne3, me3, rfl, rfl, rfl, rfl, rfl, rfl⟩ := hj.shape6
            have HS7 := Lib.hid (HS5.out.call hx hj)
            clear hx hj
            try go_simp
            refine hK _ _ trivial (fun _ _ => HS7.out.bel) ?_
            clear hK K
            try simp only [Act.put, List.setIfInBounds_toArray, List.set_cons_zero, List.set_cons_succ]
            refine wpAnyS_ready [14, 16] (by kernel_rfl) (by simp) ?_
            refine AllReadyS.cons ⟨some 44, .call { callee := .value (.func 24), args := #[.tmp 42, .tmp 43], argTypes := #[26, 26] }, _, _, _, none⟩ rfl (fun K hK => ?_) (AllReadyS.cons ⟨some 8, .alloc 42, _, _, _, none⟩ rfl (fun K hK => ?_) AllReadyS.nil)
            · go_simp
              go_at_call 24
              (with_reducible refine (HC4.out _ HS7.out.bel).mono ?_)
              rintro e u10 ⟨c0, c1, c2, c3, c4, c5, en, x, rfl, hx, hj, hres⟩
              obtain ⟨rfl, rfl⟩ := hres
              obtain ⟨k4, h4, t4, a4, na4, ma4, b4, nb4, mb4, e4, ne4, me4, rfl, rfl, rfl, rfl, rfl, rfl⟩ := hj.shape6
              have HS9 := Lib.hid (HS7.out.call hx hj)
              clear hx hj
              try go_simp
              refine hK _ _ trivial (fun _ _ => HS9.out.bel) ?_
              clear hK K
              try simp only [Act.put, List.setIfInBounds_toArray, List.set_cons_zero, List.set_cons_succ]
              refine wpAnyS_takeU 15 ⟨some 45, .build 42 #[(0, .tmp 32), (1, .tmp 35), (2, .tmp 38), (3, .tmp 41), (4, .tmp 44)], _, _, _, none⟩ (v := ?_) rfl (by kernel_rfl) (by kernel_rfl) (by kernel_rfl) (by kernel_rfl) (by kernel_rfl) (fun _ _ _ h => h) (Or.inl ⟨by rfl, ?_⟩) ⟨trivial, HS9.out.bel⟩ ?_
              rotate_left
              · (intro x hx; clear hx; go_simp; try with_reducible rfl)
              try simp only [Act.put, List.setIfInBounds_toArray, List.set_cons_zero, List.set_cons_succ]
              refine wpAnyS_ready [16] (by kernel_rfl) (by simp) ?_
              refine AllReadyS.cons ⟨some 8, .alloc 42, _, _, _, none⟩ rfl (fun K hK => ?_) AllReadyS.nil
              go_simp
              refine hK _ _ trivial (fun _ _ => (HS9.out.alloc _).bel) ?_
              clear hK K
              try simp only [Act.put, List.setIfInBounds_toArray, List.set_cons_zero, List.set_cons_succ]
              generalize hz : World.alloc u10 _ = u12
              have HA11 := Lib.hid (AL.of' HS9.out _ hz)
              clear hz
              refine wpAnyS_rest 17 (fun _ => trivial) rfl (by kernel_rfl) (by kernel_rfl) ?_
              simp only [List.drop_succ_cons, List.drop_zero]
              refine wpList_store_row rfl 42 (.tmp 8) (.tmp 45) rfl _ #[.int .i64 k0, .int .i64 h0, .string t0, .slice a0 na0 ma0, .slice b0 nb0 mb0, .slice e0 ne0 me0, .int .i64 0, .int .i64 k1, .int .i64 h1, .string t1, .slice a1 na1 ma1, .slice b1 nb1 mb1, .slice e1 ne1 me1, .int .i64 0, .int .i64 k2, .int .i64 h2, .string t2, .slice a2 na2 ma2, .slice b2 nb2 mb2, .slice e2 ne2 me2, .int .i64 0, .int .i64 k3, .int .i64 h3, .string t3, .slice a3 na3 ma3, .slice b3 nb3 mb3, .slice e3 ne3 me3, .int .i64 0, .int .i64 k4, .int .i64 h4, .string t4, .slice a4 na4 ma4, .slice b4 nb4 mb4, .slice e4 ne4 me4, .int .i64 0] rfl rfl _ _ HA11.out.blk (by kernel_rfl) rfl (ones35 _ _ _ _ _ _ _ _ _ _ _ _ _ _ _ _ _ _ _ _ _ _ _ _ _ _ _ _ _ _ _ _ _ _ _ _ _ _ _ _ _ _ _ _ _ _ _ _ _ _ _ _ _ _ _ _ _ _ _ _) ?_
              obtain ⟨f1, f2, f3, f4⟩ := HA11.out.fin #[.int .i64 k0, .int .i64 h0, .string t0, .slice a0 na0 ma0, .slice b0 nb0 mb0, .slice e0 ne0 me0, .int .i64 0, .int .i64 k1, .int .i64 h1, .string t1, .slice a1 na1 ma1, .slice b1 nb1 mb1, .slice e1 ne1 me1, .int .i64 0, .int .i64 k2, .int .i64 h2, .string t2, .slice a2 na2 ma2, .slice b2 nb2 mb2, .slice e2 ne2 me2, .int .i64 0, .int .i64 k3, .int .i64 h3, .string t3, .slice a3 na3 ma3, .slice b3 nb3 mb3, .slice e3 ne3 me3, .int .i64 0, .int .i64 k4, .int .i64 h4, .string t4, .slice a4 na4 ma4, .slice b4 nb4 mb4, .slice e4 ne4 me4, .int .i64 0]
              go_wp2_with fail
              go_meet
              exact ⟨_, k0, h0, t0, a0, na0, ma0, b0, nb0, mb0, e0, ne0, me0, k1, h1, t1, a1, na1, ma1, b1, nb1, mb1, e1, ne1, me1, k2, h2, t2, a2, na2, ma2, b2, nb2, mb2, e2, ne2, me2, k3, h3, t3, a3, na3, ma3, b3, nb3, mb3, e3, ne3, me3, k4, h4, t4, a4, na4, ma4, b4, nb4, mb4, e4, ne4, me4, rfl, f2, f3, f1, f4 (byJ lj kj 0, .agg #[.int .i64 k0, .int .i64 h0, .string t0, .slice a0 na0 ma0, .slice b0 nb0 mb0, .slice e0 ne0 me0]) (by simp), f4 (byJ lj kj 1, .agg #[.int .i64 k1, .int .i64 h1, .string t1, .slice a1 na1 ma1, .slice b1 nb1 mb1, .slice e1 ne1 me1]) (by simp), f4 (byJ lj kj 2, .agg #[.int .i64 k2, .int .i64 h2, .string t2, .slice a2 na2 ma2, .slice b2 nb2 mb2, .slice e2 ne2 me2]) (by simp), f4 (byJ lj kj 3, .agg #[.int .i64 k3, .int .i64 h3, .string t3, .slice a3 na3 ma3, .slice b3 nb3 mb3, .slice e3 ne3 me3]) (by simp), f4 (byJ lj kj 4, .agg #[.int .i64 k4, .int .i64 h4, .string t4, .slice a4 na4 ma4, .slice b4 nb4 mb4, .slice e4 ne4 me4]) (by simp)⟩
            · go_simp
              refine hK _ _ trivial (fun _ _ => (HS7.out.alloc _).bel) ?_
              clear hK K
              try simp only [Act.put, List.setIfInBounds_toArray, List.set_cons_zero, List.set_cons_succ]
              generalize hz : World.alloc u8 _ = u14
              have HA13 := Lib.hid (AL.of' HS7.out _ hz)
              clear hz
              refine wpAnyS_ready [14] (by kernel_rfl) (by simp) ?_
              refine AllReadyS.cons ⟨some 44, .call { callee := .value (.func 24), args := #[.tmp 42, .tmp 43], argTypes := #[26, 26] }, _, _, _, none⟩ rfl (fun K hK => ?_) AllReadyS.nil
              go_simp
              go_at_call 24
              (with_reducible refine (HC4.out _ HA13.out.bel).mono ?_)
              rintro e u16 ⟨c0, c1, c2, c3, c4, c5, en, x, rfl, hx, hj, hres⟩
              obtain ⟨rfl, rfl⟩ := hres
              obtain ⟨k4, h4, t4, a4, na4, ma4, b4, nb4, mb4, e4, ne4, me4, rfl, rfl, rfl, rfl, rfl, rfl⟩ := hj.shape6
              have HS15 := Lib.hid (HA13.out.call hx hj)
              clear hx hj
              try go_simp
              refine hK _ _ trivial (fun _ _ => HS15.out.bel) ?_
              clear hK K
              try simp only [Act.put, List.setIfInBounds_toArray, List.set_cons_zero, List.set_cons_succ]
              refine wpAnyS_takeU 15 ⟨some 45, .build 42 #[(0, .tmp 32), (1, .tmp 35), (2, .tmp 38), (3, .tmp 41), (4, .tmp 44)], _, _, _, none⟩ (v := ?_) rfl (by kernel_rfl) (by kernel_rfl) (by kernel_rfl) (by kernel_rfl) (by kernel_rfl) (fun _ _ _ h => h) (Or.inl ⟨by rfl, ?_⟩) ⟨trivial, HS15.out.bel⟩ ?_
              rotate_left
              · (intro x hx; clear hx; go_simp; try with_reducible rfl)
              try simp only [Act.put, List.setIfInBounds_toArray, List.set_cons_zero, List.set_cons_succ]
              refine wpAnyS_rest 17 (fun _ => trivial) rfl (by kernel_rfl) (by kernel_rfl) ?_
              simp only [List.drop_succ_cons, List.drop_zero]
              refine wpList_store_row rfl 42 (.tmp 8) (.tmp 45) rfl _ #[.int .i64 k0, .int .i64 h0, .string t0, .slice a0 na0 ma0, .slice b0 nb0 mb0, .slice e0 ne0 me0, .int .i64 0, .int .i64 k1, .int .i64 h1, .string t1, .slice a1 na1 ma1, .slice b1 nb1 mb1, .slice e1 ne1 me1, .int .i64 0, .int .i64 k2, .int .i64 h2, .string t2, .slice a2 na2 ma2, .slice b2 nb2 mb2, .slice e2 ne2 me2, .int .i64 0, .int .i64 k3, .int .i64 h3, .string t3, .slice a3 na3 ma3, .slice b3 nb3 mb3, .slice e3 ne3 me3, .int .i64 0, .int .i64 k4, .int .i64 h4, .string t4, .slice a4 na4 ma4, .slice b4 nb4 mb4, .slice e4 ne4 me4, .int .i64 0] rfl rfl _ _ HS15.out.blk (by kernel_rfl) rfl (ones35 _ _ _ _ _ _ _ _ _ _ _ _ _ _ _ _ _ _ _ _ _ _ _ _ _ _ _ _ _ _ _ _ _ _ _ _ _ _ _ _ _ _ _ _ _ _ _ _ _ _ _ _ _ _ _ _ _ _ _ _) ?_
              obtain ⟨f1, f2, f3, f4⟩ := HS15.out.fin #[.int .i64 k0, .int .i64 h0, .string t0, .slice a0 na0 ma0, .slice b0 nb0 mb0, .slice e0 ne0 me0, .int .i64 0, .int .i64 k1, .int .i64 h1, .string t1, .slice a1 na1 ma1, .slice b1 nb1 mb1, .slice e1 ne1 me1, .int .i64 0, .int .i64 k2, .int .i64 h2, .string t2, .slice a2 na2 ma2, .slice b2 nb2 mb2, .slice e2 ne2 me2, .int .i64 0, .int .i64 k3, .int .i64 h3, .string t3, .slice a3 na3 ma3, .slice b3 nb3 mb3, .slice e3 ne3 me3, .int .i64 0, .int .i64 k4, .int .i64 h4, .string t4, .slice a4 na4 ma4, .slice b4 nb4 mb4, .slice e4 ne4 me4, .int .i64 0]
              go_wp2_with fail
              go_meet
              exact ⟨_, k0, h0, t0, a0, na0, ma0, b0, nb0, mb0, e0, ne0, me0, k1, h1, t1, a1, na1, ma1, b1, nb1, mb1, e1, ne1, me1, k2, h2, t2, a2, na2, ma2, b2, nb2, mb2, e2, ne2, me2, k3, h3, t3, a3, na3, ma3, b3, nb3, mb3, e3, ne3, me3, k4, h4, t4, a4, na4, ma4, b4, nb4, mb4, e4, ne4, me4, rfl, f2, f3, f1, f4 (byJ lj kj 0, .agg #[.int .i64 k0, .int .i64 h0, .string t0, .slice a0 na0 ma0, .slice b0 nb0 mb0, .slice e0 ne0 me0]) (by simp), f4 (byJ lj kj 1, .agg #[.int .i64 k1, .int .i64 h1, .string t1, .slice a1 na1 ma1, .slice b1 nb1 mb1, .slice e1 ne1 me1]) (by simp), f4 (byJ lj kj 2, .agg #[.int .i64 k2, .int .i64 h2, .string t2, .slice a2 na2 ma2, .slice b2 nb2 mb2, .slice e2 ne2 me2]) (by simp), f4 (byJ lj kj 3, .agg #[.int .i64 k3, .int .i64 h3, .string t3, .slice a3 na3 ma3, .slice b3 nb3 mb3, .slice e3 ne3 me3]) (by simp), f4 (byJ lj kj 4, .agg #[.int .i64 k4, .int .i64 h4, .string t4, .slice a4 na4 ma4, .slice b4 nb4 mb4, .slice e4 ne4 me4]) (by simp)⟩
          · go_simp
            refine hK _ _ trivial (fun _ _ => (HS5.out.alloc _).bel) ?_
            clear hK K
            try simp only [Act.put, List.setIfInBounds_toArray, List.set_cons_zero, List.set_cons_succ]
            generalize hz : World.alloc u6 _ = u18
            have HA17 := Lib.hid (AL.of' HS5.out _ hz)
            clear hz
            refine wpAnyS_ready [11] (by kernel_rfl) (by simp) ?_
            refine AllReadyS.cons ⟨some 41, .call { callee := .value (.func 23), args := #[.tmp 39, .tmp 40], argTypes := #[26, 26] }, _, _, _, none⟩ rfl (fun K hK => ?_) AllReadyS.nil
            go_simp
            go_at_call 23
            (with_reducible refine (HC3.out _ HA17.out.bel).mono ?_)
            rintro e u20 ⟨c0, c1, c2, c3, c4, c5, en, x, rfl, hx, hj, hres⟩
            obtain ⟨rfl, rfl⟩ := hres
            obtain ⟨k3, h3, t3, a3, na3, ma3, b3, nb3, mb3, e3, ne3, me3, rfl, rfl, rfl, rfl, rfl, rfl⟩ := hj.shape6
            have HS19 := Lib.hid (HA17.out.call hx hj)
            clear hx hj
            try go_simp
            refine hK _ _ trivial (fun _ _ => HS19.out.bel) ?_
            clear hK K
            try simp only [Act.put, List.setIfInBounds_toArray, List.set_cons_zero, List.set_cons_succ]
            refine wpAnyS_ready [14] (by kernel_rfl) (by simp) ?_
            refine AllReadyS.cons ⟨some 44, .call { callee := .value (.func 24), args := #[.tmp 42, .tmp 43], argTypes := #[26, 26] }, _, _, _, none⟩ rfl (fun K hK => ?_) AllReadyS.nil
            go_simp
            go_at_call 24
            (with_reducible refine (HC4.out _ HS19.out.bel).mono ?_)
            rintro e u22 ⟨c0, c1, c2, c3, c4, c5, en, x, rfl, hx, hj, hres⟩
            obtain ⟨rfl, rfl⟩ := hres
            obtain ⟨k4, h4, t4, a4, na4, ma4, b4, nb4, mb4, e4, ne4, me4, rfl, rfl, rfl, rfl, rfl, rfl⟩ := hj.shape6
            have HS21 := Lib.hid (HS19.out.call hx hj)
            clear hx hj
            try go_simp
            refine hK _ _ trivial (fun _ _ => HS21.out.bel) ?_
            clear hK K
            try simp only [Act.put, List.setIfInBounds_toArray, List.set_cons_zero, List.set_cons_succ]
            refine wpAnyS_takeU 15 ⟨some 45, .build 42 #[(0, .tmp 32), (1, .tmp 35), (2, .tmp 38), (3, .tmp 41), (4, .tmp 44)], _, _, _, none⟩ (v := ?_) rfl (by kernel_rfl) (by kernel_rfl) (by kernel_rfl) (by kernel_rfl) (by kernel_rfl) (fun _ _ _ h => h) (Or.inl ⟨by rfl, ?_⟩) ⟨trivial, HS21.out.bel⟩ ?_
            rotate_left
            · (intro x hx; clear hx; go_simp; try with_reducible rfl)
            try simp only [Act.put, List.setIfInBounds_toArray, List.set_cons_zero, List.set_cons_succ]
            refine wpAnyS_rest 17 (fun _ => trivial) rfl (by kernel_rfl) (by kernel_rfl) ?_
            simp only [List.drop_succ_cons, List.drop_zero]
            refine wpList_store_row rfl 42 (.tmp 8) (.tmp 45) rfl _ #[.int .i64 k0, .int .i64 h0, .string t0, .slice a0 na0 ma0, .slice b0 nb0 mb0, .slice e0 ne0 me0, .int .i64 0, .int .i64 k1, .int .i64 h1, .string t1, .slice a1 na1 ma1, .slice b1 nb1 mb1, .slice e1 ne1 me1, .int .i64 0, .int .i64 k2, .int .i64 h2, .string t2, .slice a2 na2 ma2, .slice b2 nb2 mb2, .slice e2 ne2 me2, .int .i64 0, .int .i64 k3, .int .i64 h3, .string t3, .slice a3 na3 ma3, .slice b3 nb3 mb3, .slice e3 ne3 me3, .int .i64 0, .int .i64 k4, .int .i64 h4, .string t4, .slice a4 na4 ma4, .slice b4 nb4 mb4, .slice e4 ne4 me4, .int .i64 0] rfl rfl _ _ HS21.out.blk (by kernel_rfl) rfl (ones35 _ _ _ _ _ _ _ _ _ _ _ _ _ _ _ _ _ _ _ _ _ _ _ _ _ _ _ _ _ _ _ _ _ _ _ _ _ _ _ _ _ _ _ _ _ _ _ _ _ _ _ _ _ _ _ _ _ _ _ _) ?_
            obtain ⟨f1, f2, f3, f4⟩ := HS21.out.fin #[.int .i64 k0, .int .i64 h0, .string t0, .slice a0 na0 ma0, .slice b0 nb0 mb0, .slice e0 ne0 me0, .int .i64 0, .int .i64 k1, .int .i64 h1, .string t1, .slice a1 na1 ma1, .slice b1 nb1 mb1, .slice e1 ne1 me1, .int .i64 0, .int .i64 k2, .int .i64 h2, .string t2, .slice a2 na2 ma2, .slice b2 nb2 mb2, .slice e2 ne2 me2, .int .i64 0, .int .i64 k3, .int .i64 h3, .string t3, .slice a3 na3 ma3, .slice b3 nb3 mb3, .slice e3 ne3 me3, .int .i64 0, .int .i64 k4, .int .i64 h4, .string t4, .slice a4 na4 ma4, .slice b4 nb4 mb4, .slice e4 ne4 me4, .int .i64 0]
            go_wp2_with fail
            go_meet
            exact ⟨_, k0, h0, t0, a0, na0, ma0, b0, nb0, mb0, e0, ne0, me0, k1, h1, t1, a1, na1, ma1, b1, nb1, mb1, e1, ne1, me1, k2, h2, t2, a2, na2, ma2, b2, nb2, mb2, e2, ne2, me2, k3, h3, t3, a3, na3, ma3, b3, nb3, mb3, e3, ne3, me3, k4, h4, t4, a4, na4, ma4, b4, nb4, mb4, e4, ne4, me4, rfl, f2, f3, f1, f4 (byJ lj kj 0, .agg #[.int .i64 k0, .int .i64 h0, .string t0, .slice a0 na0 ma0, .slice b0 nb0 mb0, .slice e0 ne0 me0]) (by simp), f4 (byJ lj kj 1, .agg #[.int .i64 k1, .int .i64 h1, .string t1, .slice a1 na1 ma1, .slice b1 nb1 mb1, .slice e1 ne1 me1]) (by simp), f4 (byJ lj kj 2, .agg #[.int .i64 k2, .int .i64 h2, .string t2, .slice a2 na2 ma2, .slice b2 nb2 mb2, .slice e2 ne2 me2]) (by simp), f4 (byJ lj kj 3, .agg #[.int .i64 k3, .int .i64 h3, .string t3, .slice a3 na3 ma3, .slice b3 nb3 mb3, .slice e3 ne3 me3]) (by simp), f4 (byJ lj kj 4, .agg #[.int .i64 k4, .int .i64 h4, .string t4, .slice a4 na4 ma4, .slice b4 nb4 mb4, .slice e4 ne4 me4]) (by simp)⟩
        · go_simp
          refine hK _ _ trivial (fun _ _ => (HS3.out.alloc _).bel) ?_
          clear hK K
          try simp only [Act.put, List.setIfInBounds_toArray, List.set_cons_zero, List.set_cons_succ]
          generalize hz : World.alloc u4 _ = u24
          have HA23 := Lib.hid (AL.of' HS3.out _ hz)
          clear hz
          refine wpAnyS_ready [8] (by kernel_rfl) (by simp) ?_
          refine AllReadyS.cons ⟨some 38, .call { callee := .value (.func 22), args := #[.tmp 36, .tmp 37], argTypes := #[26, 26] }, _, _, _, none⟩ rfl (fun K hK => ?_) AllReadyS.nil
          go_simp
          go_at_call 22
          (with_reducible refine (HC2.out _ HA23.out.bel).mono ?_)
          rintro e u26 ⟨c0, c1, c2, c3, c4, c5, en, x, rfl, hx, hj, hres⟩
          obtain ⟨rfl, rfl⟩ := hres
          obtain ⟨k2, h2, t2, a2, na2, ma2, b2, nb2, mb2, e2, ne2, me2, rfl, rfl, rfl, rfl, rfl, rfl⟩ := hj.shape6
          have HS25 := Lib.hid (HA23.out.call hx hj)
          clear hx hj
          try go_simp
          refine hK _ _ trivial (fun _ _ => HS25.out.bel) ?_
          clear hK K
          try simp only [Act.put, List.setIfInBounds_toArray, List.set_cons_zero, List.set_cons_succ]
          refine wpAnyS_ready [11] (by kernel_rfl) (by simp) ?_
          refine AllReadyS.cons ⟨some 41, .call { callee := .value (.func 23), args := #[.tmp 39, .tmp 40], argTypes := #[26, 26] }, _, _, _, none⟩ rfl (fun K hK => ?_) AllReadyS.nil
          go_simp
          go_at_call 23
          (with_reducible refine (HC3.out _ HS25.out.bel).mono ?_)
          rintro e u28 ⟨c0, c1, c2, c3, c4, c5, en, x, rfl, hx, hj, hres⟩
          obtain ⟨rfl, rfl⟩ := hres
          obtain ⟨k3, h3, t3, a3, na3, ma3, b3, nb3, mb3, e3, ne3, me3, rfl, rfl, rfl, rfl, rfl, rfl⟩ := hj.shape6
          have HS27 := Lib.hid (HS25.out.call hx hj)
          clear hx hj
          try go_simp
          refine hK _ _ trivial (fun _ _ => HS27.out.bel) ?_
          clear hK K
          try simp only [Act.put, List.setIfInBounds_toArray, List.set_cons_zero, List.set_cons_succ]
          refine wpAnyS_ready [14] (by kernel_rfl) (by simp) ?_
          refine AllReadyS.cons ⟨some 44, .call { callee := .value (.func 24), args := #[.tmp 42, .tmp 43], argTypes := #[26, 26] }, _, _, _, none⟩ rfl (fun K hK => ?_) AllReadyS.nil
          go_simp
          go_at_call 24
          (with_reducible refine (HC4.out _ HS27.out.bel).mono ?_)
          rintro e u30 ⟨c0, c1, c2, c3, c4, c5, en, x, rfl, hx, hj, hres⟩
          obtain ⟨rfl, rfl⟩ := hres
          obtain ⟨k4, h4, t4, a4, na4, ma4, b4, nb4, mb4, e4, ne4, me4, rfl, rfl, rfl, rfl, rfl, rfl⟩ := hj.shape6
          have HS29 := Lib.hid (HS27.out.call hx hj)
          clear hx hj
          try go_simp
          refine hK _ _ trivial (fun _ _ => HS29.out.bel) ?_
          clear hK K
          try simp only [Act.put, List.setIfInBounds_toArray, List.set_cons_zero, List.set_cons_succ]
          refine wpAnyS_takeU 15 ⟨some 45, .build 42 #[(0, .tmp 32), (1, .tmp 35), (2, .tmp 38), (3, .tmp 41), (4, .tmp 44)], _, _, _, none⟩ (v := ?_) rfl (by kernel_rfl) (by kernel_rfl) (by kernel_rfl) (by kernel_rfl) (by kernel_rfl) (fun _ _ _ h => h) (Or.inl ⟨by rfl, ?_⟩) ⟨trivial, HS29.out.bel⟩ ?_
          rotate_left
          · (intro x hx; clear hx; go_simp; try with_reducible rfl)
          try simp only [Act.put, List.setIfInBounds_toArray, List.set_cons_zero, List.set_cons_succ]
          refine wpAnyS_rest 17 (fun _ => trivial) rfl (by kernel_rfl) (by kernel_rfl) ?_
          simp only [List.drop_succ_cons, List.drop_zero]
          refine wpList_store_row rfl 42 (.tmp 8) (.tmp 45) rfl _ #[.int .i64 k0, .int .i64 h0, .string t0, .slice a0 na0 ma0, .slice b0 nb0 mb0, .slice e0 ne0 me0, .int .i64 0, .int .i64 k1, .int .i64 h1, .string t1, .slice a1 na1 ma1, .slice b1 nb1 mb1, .slice e1 ne1 me1, .int .i64 0, .int .i64 k2, .int .i64 h2, .string t2, .slice a2 na2 ma2, .slice b2 nb2 mb2, .slice e2 ne2 me2, .int .i64 0, .int .i64 k3, .int .i64 h3, .string t3, .slice a3 na3 ma3, .slice b3 nb3 mb3, .slice e3 ne3 me3, .int .i64 0, .int .i64 k4, .int .i64 h4, .string t4, .slice a4 na4 ma4, .slice b4 nb4 mb4, .slice e4 ne4 me4, .int .i64 0] rfl rfl _ _ HS29.out.blk (by kernel_rfl) rfl (ones35 _ _ _ _ _ _ _ _ _ _ _ _ _ _ _ _ _ _ _ _ _ _ _ _ _ _ _ _ _ _ _ _ _ _ _ _ _ _ _ _ _ _ _ _ _ _ _ _ _ _ _ _ _ _ _ _ _ _ _ _) ?_
          obtain ⟨f1, f2, f3, f4⟩ := HS29.out.fin #[.int .i64 k0, .int .i64 h0, .string t0, .slice a0 na0 ma0, .slice b0 nb0 mb0, .slice e0 ne0 me0, .int .i64 0, .int .i64 k1, .int .i64 h1, .string t1, .slice a1 na1 ma1, .slice b1 nb1 mb1, .slice e1 ne1 me1, .int .i64 0, .int .i64 k2, .int .i64 h2, .string t2, .slice a2 na2 ma2, .slice b2 nb2 mb2, .slice e2 ne2 me2, .int .i64 0, .int .i64 k3, .int .i64 h3, .string t3, .slice a3 na3 ma3, .slice b3 nb3 mb3, .slice e3 ne3 me3, .int .i64 0, .int .i64 k4, .int .i64 h4, .string t4, .slice a4 na4 ma4, .slice b4 nb4 mb4, .slice e4 ne4 me4, .int .i64 0]
          go_wp2_with fail
          go_meet
          exact ⟨_, k0, h0, t0, a0, na0, ma0, b0, nb0, mb0, e0, ne0, me0, k1, h1, t1, a1, na1, ma1, b1, nb1, mb1, e1, ne1, me1, k2, h2, t2, a2, na2, ma2, b2, nb2, mb2, e2, ne2, me2, k3, h3, t3, a3, na3, ma3, b3, nb3, mb3, e3, ne3, me3, k4, h4, t4, a4, na4, ma4, b4, nb4, mb4, e4, ne4, me4, rfl, f2, f3, f1, f4 (byJ lj kj 0, .agg #[.int .i64 k0, .int .i64 h0, .string t0, .slice a0 na0 ma0, .slice b0 nb0 mb0, .slice e0 ne0 me0]) (by simp), f4 (byJ lj kj 1, .agg #[.int .i64 k1, .int .i64 h1, .string t1, .slice a1 na1 ma1, .slice b1 nb1 mb1, .slice e1 ne1 me1]) (by simp), f4 (byJ lj kj 2, .agg #[.int .i64 k2, .int .i64 h2, .string t2, .slice a2 na2 ma2, .slice b2 nb2 mb2, .slice e2 ne2 me2]) (by simp), f4 (byJ lj kj 3, .agg #[.int .i64 k3, .int .i64 h3, .string t3, .slice a3 na3 ma3, .slice b3 nb3 mb3, .slice e3 ne3 me3]) (by simp), f4 (byJ lj kj 4, .agg #[.int .i64 k4, .int .i64 h4, .string t4, .slice a4 na4 ma4, .slice b4 nb4 mb4, .slice e4 ne4 me4]) (by simp)⟩
      · go_simp
        refine hK _ _ trivial (fun _ _ => (HS1.out.alloc _).bel) ?_
        clear hK K
        try simp only [Act.put, List.setIfInBounds_toArray, List.set_cons_zero, List.set_cons_succ]
        generalize hz : World.alloc u2 _ = u32
        have HA31 := Lib.hid (AL.of' HS1.out _ hz)
        clear hz
        refine wpAnyS_ready [5] (by kernel_rfl) (by simp) ?_
        refine AllReadyS.cons ⟨some 35, .call { callee := .value (.func 21), args := #[.tmp 33, .tmp 34], argTypes := #[26, 26] }, _, _, _, none⟩ rfl (fun K hK => ?_) AllReadyS.nil
        go_simp
        go_at_call 21
        (with_reducible refine (HC1.out _ HA31.out.bel).mono ?_)
        rintro e u34 ⟨c0, c1, c2, c3, c4, c5, en, x, rfl, hx, hj, hres⟩
        obtain ⟨rfl, rfl⟩ := hres
        obtain ⟨k1, h1, t1, a1, na1, ma1, b1, nb1, mb1, e1, ne1, me1, rfl, rfl, rfl, rfl, rfl, rfl⟩ := hj.shape6
        have HS33 := Lib.hid (HA31.out.call hx hj)
        clear hx hj
        try go_simp
        refine hK _ _ trivial (fun _ _ => HS33.out.bel) ?_
        clear hK K
        try simp only [Act.put, List.setIfInBounds_toArray, List.set_cons_zero, List.set_cons_succ]
        refine wpAnyS_ready [8] (by kernel_rfl) (by simp) ?_
        refine AllReadyS.cons ⟨some 38, .call { callee := .value (.func 22), args := #[.tmp 36, .tmp 37], argTypes := #[26, 26] }, _, _, _, none⟩ rfl (fun K hK => ?_) AllReadyS.nil
        go_simp
        go_at_call 22
        (with_reducible refine (HC2.out _ HS33.out.bel).mono ?_)
        rintro e u36 ⟨c0, c1, c2, c3, c4, c5, en, x, rfl, hx, hj, hres⟩
        obtain ⟨rfl, rfl⟩ := hres
        obtain ⟨k2, h2, t2, a2, na2, ma2, b2, nb2, mb2, e2, ne2, me2, rfl, rfl, rfl, rfl, rfl, rfl⟩ := hj.shape6
        have HS35 := Lib.hid (HS33.out.call hx hj)
        clear hx hj
        try go_simp
        refine hK _ _ trivial (fun _ _ => HS35.out.bel) ?_
        clear hK K
        try simp only [Act.put, List.setIfInBounds_toArray, List.set_cons_zero, List.set_cons_succ]
        refine wpAnyS_ready [11] (by kernel_rfl) (by simp) ?_
        refine AllReadyS.cons ⟨some 41, .call { callee := .value (.func 23), args := #[.tmp 39, .tmp 40], argTypes := #[26, 26] }, _, _, _, none⟩ rfl (fun K hK => ?_) AllReadyS.nil
        go_simp
        go_at_call 23
        (with_reducible refine (HC3.out _ HS35.out.bel).mono ?_)
        rintro e u38 ⟨c0, c1, c2, c3, c4, c5, en, x, rfl, hx, hj, hres⟩
        obtain ⟨rfl, rfl⟩ := hres
        obtain ⟨k3, h3, t3, a3, na3, ma3, b3, nb3, mb3, e3, ne3, me3, rfl, rfl, rfl, rfl, rfl, rfl⟩ := hj.shape6
        have HS37 := Lib.hid (HS35.out.call hx hj)
        clear hx hj
        try go_simp
        refine hK _ _ trivial (fun _ _ => HS37.out.bel) ?_
        clear hK K
        try simp only [Act.put, List.setIfInBounds_toArray, List.set_cons_zero, List.set_cons_succ]
        refine wpAnyS_ready [14] (by kernel_rfl) (by simp) ?_
        refine AllReadyS.cons ⟨some 44, .call { callee := .value (.func 24), args := #[.tmp 42, .tmp 43], argTypes := #[26, 26] }, _, _, _, none⟩ rfl (fun K hK => ?_) AllReadyS.nil
        go_simp
        go_at_call 24
        (with_reducible refine (HC4.out _ HS37.out.bel).mono ?_)
        rintro e u40 ⟨c0, c1, c2, c3, c4, c5, en, x, rfl, hx, hj, hres⟩
        obtain ⟨rfl, rfl⟩ := hres
        obtain ⟨k4, h4, t4, a4, na4, ma4, b4, nb4, mb4, e4, ne4, me4, rfl, rfl, rfl, rfl, rfl, rfl⟩ := hj.shape6
        have HS39 := Lib.hid (HS37.out.call hx hj)
        clear hx hj
        try go_simp
        refine hK _ _ trivial (fun _ _ => HS39.out.bel) ?_
        clear hK K
        try simp only [Act.put, List.setIfInBounds_toArray, List.set_cons_zero, List.set_cons_succ]
        refine wpAnyS_takeU 15 ⟨some 45, .build 42 #[(0, .tmp 32), (1, .tmp 35), (2, .tmp 38), (3, .tmp 41), (4, .tmp 44)], _, _, _, none⟩ (v := ?_) rfl (by kernel_rfl) (by kernel_rfl) (by kernel_rfl) (by kernel_rfl) (by kernel_rfl) (fun _ _ _ h => h) (Or.inl ⟨by rfl, ?_⟩) ⟨trivial, HS39.out.bel⟩ ?_
        rotate_left
        · (intro x hx; clear hx; go_simp; try with_reducible rfl)
        try simp only [Act.put, List.setIfInBounds_toArray, List.set_cons_zero, List.set_cons_succ]
        refine wpAnyS_rest 17 (fun _ => trivial) rfl (by kernel_rfl) (by kernel_rfl) ?_
        simp only [List.drop_succ_cons, List.drop_zero]
        refine wpList_store_row rfl 42 (.tmp 8) (.tmp 45) rfl _ #[.int .i64 k0, .int .i64 h0, .string t0, .slice a0 na0 ma0, .slice b0 nb0 mb0, .slice e0 ne0 me0, .int .i64 0, .int .i64 k1, .int .i64 h1, .string t1, .slice a1 na1 ma1, .slice b1 nb1 mb1, .slice e1 ne1 me1, .int .i64 0, .int .i64 k2, .int .i64 h2, .string t2, .slice a2 na2 ma2, .slice b2 nb2 mb2, .slice e2 ne2 me2, .int .i64 0, .int .i64 k3, .int .i64 h3, .string t3, .slice a3 na3 ma3, .slice b3 nb3 mb3, .slice e3 ne3 me3, .int .i64 0, .int .i64 k4, .int .i64 h4, .string t4, .slice a4 na4 ma4, .slice b4 nb4 mb4, .slice e4 ne4 me4, .int .i64 0] rfl rfl _ _ HS39.out.blk (by kernel_rfl) rfl (ones35 _ _ _ _ _ _ _ _ _ _ _ _ _ _ _ _ _ _ _ _ _ _ _ _ _ _ _ _ _ _ _ _ _ _ _ _ _ _ _ _ _ _ _ _ _ _ _ _ _ _ _ _ _ _ _ _ _ _ _ _) ?_
        obtain ⟨f1, f2, f3, f4⟩ := HS39.out.fin #[.int .i64 k0, .int .i64 h0, .string t0, .slice a0 na0 ma0, .slice b0 nb0 mb0, .slice e0 ne0 me0, .int .i64 0, .int .i64 k1, .int .i64 h1, .string t1, .slice a1 na1 ma1, .slice b1 nb1 mb1, .slice e1 ne1 me1, .int .i64 0, .int .i64 k2, .int .i64 h2, .string t2, .slice a2 na2 ma2, .slice b2 nb2 mb2, .slice e2 ne2 me2, .int .i64 0, .int .i64 k3, .int .i64 h3, .string t3, .slice a3 na3 ma3, .slice b3 nb3 mb3, .slice e3 ne3 me3, .int .i64 0, .int .i64 k4, .int .i64 h4, .string t4, .slice a4 na4 ma4, .slice b4 nb4 mb4, .slice e4 ne4 me4, .int .i64 0]
        go_wp2_with fail
        go_meet
        exact ⟨_, k0, h0, t0, a0, na0, ma0, b0, nb0, mb0, e0, ne0, me0, k1, h1, t1, a1, na1, ma1, b1, nb1, mb1, e1, ne1, me1, k2, h2, t2, a2, na2, ma2, b2, nb2, mb2, e2, ne2, me2, k3, h3, t3, a3, na3, ma3, b3, nb3, mb3, e3, ne3, me3, k4, h4, t4, a4, na4, ma4, b4, nb4, mb4, e4, ne4, me4, rfl, f2, f3, f1, f4 (byJ lj kj 0, .agg #[.int .i64 k0, .int .i64 h0, .string t0, .slice a0 na0 ma0, .slice b0 nb0 mb0, .slice e0 ne0 me0]) (by simp), f4 (byJ lj kj 1, .agg #[.int .i64 k1, .int .i64 h1, .string t1, .slice a1 na1 ma1, .slice b1 nb1 mb1, .slice e1 ne1 me1]) (by simp), f4 (byJ lj kj 2, .agg #[.int .i64 k2, .int .i64 h2, .string t2, .slice a2 na2 ma2, .slice b2 nb2 mb2, .slice e2 ne2 me2]) (by simp), f4 (byJ lj kj 3, .agg #[.int .i64 k3, .int .i64 h3, .string t3, .slice a3 na3 ma3, .slice b3 nb3 mb3, .slice e3 ne3 me3]) (by simp), f4 (byJ lj kj 4, .agg #[.int .i64 k4, .int .i64 h4, .string t4, .slice a4 na4 ma4, .slice b4 nb4 mb4, .slice e4 ne4 me4]) (by simp)⟩
    · go_simp
      refine hK _ _ trivial (fun _ _ => (HS0.out.alloc _).bel) ?_
      clear hK K
      try simp only [Act.put, List.setIfInBounds_toArray, List.set_cons_zero, List.set_cons_succ]
      generalize hz : World.drew (World.alloc W7 _) = u42
      have HA41 := Lib.hid (AL.of' HS0.out _ (show World.alloc W7.drew (.cells #[.int .i64 0, .int .i64 0, .string ⟨#[]⟩, .slice none 0 0, .slice none 0 0, .slice none 0 0, .int .i64 0, .int .i64 0, .int .i64 0, .string ⟨#[]⟩, .slice none 0 0, .slice none 0 0, .slice none 0 0, .int .i64 0, .int .i64 0, .int .i64 0, .string ⟨#[]⟩, .slice none 0 0, .slice none 0 0, .slice none 0 0, .int .i64 0, .int .i64 0, .int .i64 0, .string ⟨#[]⟩, .slice none 0 0, .slice none 0 0, .slice none 0 0, .int .i64 0, .int .i64 0, .int .i64 0, .string ⟨#[]⟩, .slice none 0 0, .slice none 0 0, .slice none 0 0, .int .i64 0] 42) = u42 from hz))
      clear hz
      refine wpAnyS_ready [2] (by kernel_rfl) (by simp) ?_
      refine AllReadyS.cons ⟨some 32, .call { callee := .value (.func 20), args := #[.tmp 30, .tmp 31], argTypes := #[26, 26] }, _, _, _, none⟩ rfl (fun K hK => ?_) AllReadyS.nil
      go_simp
      go_at_call 20
      (with_reducible refine (HC0.out _ HA41.out.bel).mono ?_)
      rintro e u44 ⟨c0, c1, c2, c3, c4, c5, en, x, rfl, hx, hj, hres⟩
      obtain ⟨rfl, rfl⟩ := hres
      obtain ⟨k0, h0, t0, a0, na0, ma0, b0, nb0, mb0, e0, ne0, me0, rfl, rfl, rfl, rfl, rfl, rfl⟩ := hj.shape6
      have HS43 := Lib.hid (HA41.out.call hx hj)
      clear hx hj
      try go_simp
      refine hK _ _ trivial (fun _ _ => HS43.out.bel) ?_
      clear hK K
      try simp only [Act.put, List.setIfInBounds_toArray, List.set_cons_zero, List.set_cons_succ]
      refine wpAnyS_ready [5] (by kernel_rfl) (by simp) ?_
      refine AllReadyS.cons ⟨some 35, .call { callee := .value (.func 21), args := #[.tmp 33, .tmp 34], argTypes := #[26, 26] }, _, _, _, none⟩ rfl (fun K hK => ?_) AllReadyS.nil
      go_simp
      go_at_call 21
      (with_reducible refine (HC1.out _ HS43.out.bel).mono ?_)
      rintro e u46 ⟨c0, c1, c2, c3, c4, c5, en, x, rfl, hx, hj, hres⟩
      obtain ⟨rfl, rfl⟩ := hres
      obtain ⟨k1, h1, t1, a1, na1, ma1, b1, nb1, mb1, e1, ne1, me1, rfl, rfl, rfl, rfl, rfl, rfl⟩ := hj.shape6
      have HS45 := Lib.hid (HS43.out.call hx hj)
      clear hx hj
      try go_simp
      refine hK _ _ trivial (fun _ _ => HS45.out.bel) ?_
      clear hK K
      try simp only [Act.put, List.setIfInBounds_toArray, List.set_cons_zero, List.set_cons_succ]
      refine wpAnyS_ready [8] (by kernel_rfl) (by simp) ?_
      refine AllReadyS.cons ⟨some 38, .call { callee := .value (.func 22), args := #[.tmp 36, .tmp 37], argTypes := #[26, 26] }, _, _, _, none⟩ rfl (fun K hK => ?_) AllReadyS.nil
      go_simp
      go_at_call 22
      (with_reducible refine (HC2.out _ HS45.out.bel).mono ?_)
      rintro e u48 ⟨c0, c1, c2, c3, c4, c5, en, x, rfl, hx, hj, hres⟩
      obtain ⟨rfl, rfl⟩ := hres
      obtain ⟨k2, h2, t2, a2, na2, ma2, b2, nb2, mb2, e2, ne2, me2, rfl, rfl, rfl, rfl, rfl, rfl⟩ := hj.shape6
      have HS47 := Lib.hid (HS45.out.call hx hj)
      clear hx hj
      try go_simp
      refine hK _ _ trivial (fun _ _ => HS47.out.bel) ?_
      clear hK K
      try simp only [Act.put, List.setIfInBounds_toArray, List.set_cons_zero, List.set_cons_succ]
      refine wpAnyS_ready [11] (by kernel_rfl) (by simp) ?_
      refine AllReadyS.cons ⟨some 41, .call { callee := .value (.func 23), args := #[.tmp 39, .tmp 40], argTypes := #[26, 26] }, _, _, _, none⟩ rfl (fun K hK => ?_) AllReadyS.nil
      go_simp
      go_at_call 23
      (with_reducible refine (HC3.out _ HS47.out.bel).mono ?_)
      rintro e u50 ⟨c0, c1, c2, c3, c4, c5, en, x, rfl, hx, hj, hres⟩
      obtain ⟨rfl, rfl⟩ := hres
      obtain ⟨k3, h3, t3, a3, na3, ma3, b3, nb3, mb3, e3, ne3, me3, rfl, rfl, rfl, rfl, rfl, rfl⟩ := hj.shape6
      have HS49 := Lib.hid (HS47.out.call hx hj)
      clear hx hj
      try go_simp
      refine hK _ _ trivial (fun _ _ => HS49.out.bel) ?_
      clear hK K
      try simp only [Act.put, List.setIfInBounds_toArray, List.set_cons_zero, List.set_cons_succ]
      refine wpAnyS_ready [14] (by kernel_rfl) (by simp) ?_
      refine AllReadyS.cons ⟨some 44, .call { callee := .value (.func 24), args := #[.tmp 42, .tmp 43], argTypes := #[26, 26] }, _, _, _, none⟩ rfl (fun K hK => ?_) AllReadyS.nil
      go_simp
      go_at_call 24
      (with_reducible refine (HC4.out _ HS49.out.bel).mono ?_)
      rintro e u52 ⟨c0, c1, c2, c3, c4, c5, en, x, rfl, hx, hj, hres⟩
      obtain ⟨rfl, rfl⟩ := hres
      obtain ⟨k4, h4, t4, a4, na4, ma4, b4, nb4, mb4, e4, ne4, me4, rfl, rfl, rfl, rfl, rfl, rfl⟩ := hj.shape6
      have HS51 := Lib.hid (HS49.out.call hx hj)
      clear hx hj
      try go_simp
      refine hK _ _ trivial (fun _ _ => HS51.out.bel) ?_
      clear hK K
      try simp only [Act.put, List.setIfInBounds_toArray, List.set_cons_zero, List.set_cons_succ]
      refine wpAnyS_takeU 15 ⟨some 45, .build 42 #[(0, .tmp 32), (1, .tmp 35), (2, .tmp 38), (3, .tmp 41), (4, .tmp 44)], _, _, _, none⟩ (v := ?_) rfl (by kernel_rfl) (by kernel_rfl) (by kernel_rfl) (by kernel_rfl) (by kernel_rfl) (fun _ _ _ h => h) (Or.inl ⟨by rfl, ?_⟩) ⟨trivial, HS51.out.bel⟩ ?_
      rotate_left
      · (intro x hx; clear hx; go_simp; try with_reducible rfl)
      try simp only [Act.put, List.setIfInBounds_toArray, List.set_cons_zero, List.set_cons_succ]
      refine wpAnyS_rest 17 (fun _ => trivial) rfl (by kernel_rfl) (by kernel_rfl) ?_
      simp only [List.drop_succ_cons, List.drop_zero]
      refine wpList_store_row rfl 42 (.tmp 8) (.tmp 45) rfl _ #[.int .i64 k0, .int .i64 h0, .string t0, .slice a0 na0 ma0, .slice b0 nb0 mb0, .slice e0 ne0 me0, .int .i64 0, .int .i64 k1, .int .i64 h1, .string t1, .slice a1 na1 ma1, .slice b1 nb1 mb1, .slice e1 ne1 me1, .int .i64 0, .int .i64 k2, .int .i64 h2, .string t2, .slice a2 na2 ma2, .slice b2 nb2 mb2, .slice e2 ne2 me2, .int .i64 0, .int .i64 k3, .int .i64 h3, .string t3, .slice a3 na3 ma3, .slice b3 nb3 mb3, .slice e3 ne3 me3, .int .i64 0, .int .i64 k4, .int .i64 h4, .string t4, .slice a4 na4 ma4, .slice b4 nb4 mb4, .slice e4 ne4 me4, .int .i64 0] rfl rfl _ _ HS51.out.blk (by kernel_rfl) rfl (ones35 _ _ _ _ _ _ _ _ _ _ _ _ _ _ _ _ _ _ _ _ _ _ _ _ _ _ _ _ _ _ _ _ _ _ _ _ _ _ _ _ _ _ _ _ _ _ _ _ _ _ _ _ _ _ _ _ _ _ _ _) ?_
      obtain ⟨f1, f2, f3, f4⟩ := HS51.out.fin #[.int .i64 k0, .int .i64 h0, .string t0, .slice a0 na0 ma0, .slice b0 nb0 mb0, .slice e0 ne0 me0, .int .i64 0, .int .i64 k1, .int .i64 h1, .string t1, .slice a1 na1 ma1, .slice b1 nb1 mb1, .slice e1 ne1 me1, .int .i64 0, .int .i64 k2, .int .i64 h2, .string t2, .slice a2 na2 ma2, .slice b2 nb2 mb2, .slice e2 ne2 me2, .int .i64 0, .int .i64 k3, .int .i64 h3, .string t3, .slice a3 na3 ma3, .slice b3 nb3 mb3, .slice e3 ne3 me3, .int .i64 0, .int .i64 k4, .int .i64 h4, .string t4, .slice a4 na4 ma4, .slice b4 nb4 mb4, .slice e4 ne4 me4, .int .i64 0]
      go_wp2_with fail
      go_meet
      exact ⟨_, k0, h0, t0, a0, na0, ma0, b0, nb0, mb0, e0, ne0, me0, k1, h1, t1, a1, na1, ma1, b1, nb1, mb1, e1, ne1, me1, k2, h2, t2, a2, na2, ma2, b2, nb2, mb2, e2, ne2, me2, k3, h3, t3, a3, na3, ma3, b3, nb3, mb3, e3, ne3, me3, k4, h4, t4, a4, na4, ma4, b4, nb4, mb4, e4, ne4, me4, rfl, f2, f3, f1, f4 (byJ lj kj 0, .agg #[.int .i64 k0, .int .i64 h0, .string t0, .slice a0 na0 ma0, .slice b0 nb0 mb0, .slice e0 ne0 me0]) (by simp), f4 (byJ lj kj 1, .agg #[.int .i64 k1, .int .i64 h1, .string t1, .slice a1 na1 ma1, .slice b1 nb1 mb1, .slice e1 ne1 me1]) (by simp), f4 (byJ lj kj 2, .agg #[.int .i64 k2, .int .i64 h2, .string t2, .slice a2 na2 ma2, .slice b2 nb2 mb2, .slice e2 ne2 me2]) (by simp), f4 (byJ lj kj 3, .agg #[.int .i64 k3, .int .i64 h3, .string t3, .slice a3 na3 ma3, .slice b3 nb3 mb3, .slice e3 ne3 me3]) (by simp), f4 (byJ lj kj 4, .agg #[.int .i64 k4, .int .i64 h4, .string t4, .slice a4 na4 ma4, .slice b4 nb4 mb4, .slice e4 ne4 me4]) (by simp)⟩
  obtain ⟨B8, k0, h0, t0, a0, na0, ma0, b0, nb0, mb0, e0, ne0, me0, k1, h1, t1, a1, na1, ma1, b1, nb1, mb1, e1, ne1, me1, k2, h2, t2, a2, na2, ma2, b2, nb2, mb2, e2, ne2, me2, k3, h3, t3, a3, na3, ma3, b3, nb3, mb3, e3, ne3, me3, k4, h4, t4, a4, na4, ma4, b4, nb4, mb4, e4, ne4, me4, rfl, hb8, hl8, hbel, r0, r1, r2, r3, r4⟩ := hcut
  generalize wc = W8 at *
  have HB8 := Lib.hid hb8
  have HBEL := Lib.hid hbel
  have HRX := Lib.hid (And.intro r0 (And.intro r1 (And.intro r2 (And.intro r3 r4))))
  clear hb8 hbel r0 r1 r2 r3 r4 HC0 HC1 HC2 HC3 HC4 HS0
  go_upto_block 0 with (refine wpList_load_row rfl 42 (.tmp 8) rfl B8 rfl 42 #[.int .i64 k0, .int .i64 h0, .string t0, .slice a0 na0 ma0, .slice b0 nb0 mb0, .slice e0 ne0 me0, .int .i64 0, .int .i64 k1, .int .i64 h1, .string t1, .slice a1 na1 ma1, .slice b1 nb1 mb1, .slice e1 ne1 me1, .int .i64 0, .int .i64 k2, .int .i64 h2, .string t2, .slice a2 na2 ma2, .slice b2 nb2 mb2, .slice e2 ne2 me2, .int .i64 0, .int .i64 k3, .int .i64 h3, .string t3, .slice a3 na3 ma3, .slice b3 nb3 mb3, .slice e3 ne3 me3, .int .i64 0, .int .i64 k4, .int .i64 h4, .string t4, .slice a4 na4 ma4, .slice b4 nb4 mb4, .slice e4 ne4 me4, .int .i64 0] (0, 0) _ HB8.out Tryz.underlying42 rfl (by kernel_rfl) ?_)
  go_wp2_with fail
  go_loopw [47] (fun v47 wr => ∃ k : Nat, v47 = .int .i64 k ∧ k ≤ 5 ∧ Below W8.heap.size W8 wr) (fun v47 _ => 5 - (Go.RowKit.intOf v47).toNat)
  case atStart => exact ⟨0, rfl, Nat.zero_le _, Below.refl _ _⟩
  case round =>
    obtain ⟨k, rfl, hk, hbw⟩ := hrel
    have HBW := Lib.hid hbw
    clear hbw
    by_cases hlt : k < 5
    · have hlt' : (k : Int) < 5 := by omega
      go_upto_region 10 with fail
      go_cut [9, 10] (fun v9 v10 wx => v9 = .int .i64 k ∧ ∃ B10 rk rh rt a1 n1 m1 a2 n2 m2 a3 n3 m3, v10 = .pointer (some ⟨B10, 0, none⟩) ∧ Box7 wx B10 rk rh rt (.slice a1 n1 m1) (.slice a2 n2 m2) (.slice a3 n3 m3) 0 ∧ B10 < wx.heap.size ∧ Below W8.heap.size W8 wx ∧ RX wx (byJ lj kj k) (.agg #[.int .i64 rk, .int .i64 rh, .string rt, .slice a1 n1 m1, .slice a2 n2 m2, .slice a3 n3 m3]))
      case first =>
        obtain rfl | rfl | rfl | rfl | rfl : k = 0 ∨ k = 1 ∨ k = 2 ∨ k = 3 ∨ k = 4 := by omega
        · go_wp2_with (refine wpList_plain rfl fun _ hK => wp_index_run 42 (.tmp 46) (.tmp 47) rfl rfl rfl (idx0 _ _ _ _ _ _ _ _ _ _ _ _ _ _ _ _ _ _ _ _ _ _ _ _ _ _ _ _ _ _ _ _ _ _ _ _ _ _ _ _ _ _ _ _ _ _ _ _ _ _ _ _ _ _ _ _ _ _ _ _ _) (hK _ _ ?_))
          go_meet
          exact ⟨rfl, _, k0, h0, t0, a0, na0, ma0, b0, nb0, mb0, e0, ne0, me0, rfl, Box7.new _ _ _ _ _ _ _ _, by rw [size_alloc]; omega, HBW.out.alloc HBW.out.size _, HRX.out.1.step (HBW.out.alloc HBW.out.size _)⟩
        · go_wp2_with (refine wpList_plain rfl fun _ hK => wp_index_run 42 (.tmp 46) (.tmp 47) rfl rfl rfl (idx1 _ _ _ _ _ _ _ _ _ _ _ _ _ _ _ _ _ _ _ _ _ _ _ _ _ _ _ _ _ _ _ _ _ _ _ _ _ _ _ _ _ _ _ _ _ _ _ _ _ _ _ _ _ _ _ _ _ _ _ _ _) (hK _ _ ?_))
          go_meet
          exact ⟨rfl, _, k1, h1, t1, a1, na1, ma1, b1, nb1, mb1, e1, ne1, me1, rfl, Box7.new _ _ _ _ _ _ _ _, by rw [size_alloc]; omega, HBW.out.alloc HBW.out.size _, HRX.out.2.1.step (HBW.out.alloc HBW.out.size _)⟩
        · go_wp2_with (refine wpList_plain rfl fun _ hK => wp_index_run 42 (.tmp 46) (.tmp 47) rfl rfl rfl (idx2 _ _ _ _ _ _ _ _ _ _ _ _ _ _ _ _ _ _ _ _ _ _ _ _ _ _ _ _ _ _ _ _ _ _ _ _ _ _ _ _ _ _ _ _ _ _ _ _ _ _ _ _ _ _ _ _ _ _ _ _ _) (hK _ _ ?_))
          go_meet
          exact ⟨rfl, _, k2, h2, t2, a2, na2, ma2, b2, nb2, mb2, e2, ne2, me2, rfl, Box7.new _ _ _ _ _ _ _ _, by rw [size_alloc]; omega, HBW.out.alloc HBW.out.size _, HRX.out.2.2.1.step (HBW.out.alloc HBW.out.size _)⟩
        · go_wp2_with (refine wpList_plain rfl fun _ hK => wp_index_run 42 (.tmp 46) (.tmp 47) rfl rfl rfl (idx3 _ _ _ _ _ _ _ _ _ _ _ _ _ _ _ _ _ _ _ _ _ _ _ _ _ _ _ _ _ _ _ _ _ _ _ _ _ _ _ _ _ _ _ _ _ _ _ _ _ _ _ _ _ _ _ _ _ _ _ _ _) (hK _ _ ?_))
          go_meet
          exact ⟨rfl, _, k3, h3, t3, a3, na3, ma3, b3, nb3, mb3, e3, ne3, me3, rfl, Box7.new _ _ _ _ _ _ _ _, by rw [size_alloc]; omega, HBW.out.alloc HBW.out.size _, HRX.out.2.2.2.1.step (HBW.out.alloc HBW.out.size _)⟩
        · go_wp2_with (refine wpList_plain rfl fun _ hK => wp_index_run 42 (.tmp 46) (.tmp 47) rfl rfl rfl (idx4 _ _ _ _ _ _ _ _ _ _ _ _ _ _ _ _ _ _ _ _ _ _ _ _ _ _ _ _ _ _ _ _ _ _ _ _ _ _ _ _ _ _ _ _ _ _ _ _ _ _ _ _ _ _ _ _ _ _ _ _ _) (hK _ _ ?_))
          go_meet
          exact ⟨rfl, _, k4, h4, t4, a4, na4, ma4, b4, nb4, mb4, e4, ne4, me4, rfl, Box7.new _ _ _ _ _ _ _ _, by rw [size_alloc]; omega, HBW.out.alloc HBW.out.size _, HRX.out.2.2.2.2.step (HBW.out.alloc HBW.out.size _)⟩
      obtain ⟨rfl, B10, rk, rh, rt, a1, n1, m1, a2, n2, m2, a3, n3, m3, rfl, hb10, hl10, hbl, hrx⟩ := hcut
      generalize wc = W9 at *
      have HB10 := Lib.hid hb10
      have HBL := Lib.hid hbl
      have HR9 := Lib.hid hrx
      clear hb10 hbl hrx
      have HW9 := Lib.hid (HBEL.out.trans (HBL.out.mono HBEL.out.size))
      have HSL : Hid (∀ b, S b → b < W9.heap.size) := Lib.hid (HJ.out _ (KEY.out _ HW9.out).1).1
      have HBY := Lib.hid (fun wx (hx : Below W9.heap.size W9 wx) => By_all lj kj HPR.out k hlt wx S (HJ.out _ (KEY.out _ (HW9.out.trans (hx.mono HW9.out.size))).1).1 pa qa pc qc (HJ.out _ (KEY.out _ (HW9.out.trans (hx.mono HW9.out.size))).1).2.1 (HJ.out _ (KEY.out _ (HW9.out.trans (hx.mono HW9.out.size))).1).2.2)
      have HCL : Hid (∀ wx, Below W9.heap.size W9 wx → wx.cell? ⟨w3.heap.size + 1 + 1, k, none⟩ = some (.string (nameBy k)) ∧ (wx.cell? ⟨w3.heap.size, 0, none⟩ = some (.int .i64 5) ∧ wx.cell? ⟨w3.heap.size, 1, none⟩ = some (.int .i64 0) ∧ wx.cell? ⟨w3.heap.size, 2, none⟩ = some (.string ⟨#[]⟩) ∧ wx.cell? ⟨w3.heap.size, 3, none⟩ = some (.slice pa lj.length pc) ∧ wx.cell? ⟨w3.heap.size, 4, none⟩ = some (.slice none 0 0) ∧ wx.cell? ⟨w3.heap.size, 5, none⟩ = some (.slice none 0 0)) ∧ wx.cell? ⟨w3.heap.size + 1, 0, none⟩ = some (.int .i64 5) ∧ wx.cell? ⟨w3.heap.size + 1, 1, none⟩ = some (.int .i64 0) ∧ wx.cell? ⟨w3.heap.size + 1, 2, none⟩ = some (.string ⟨#[]⟩) ∧ wx.cell? ⟨w3.heap.size + 1, 3, none⟩ = some (.slice qa kj.length qc) ∧ wx.cell? ⟨w3.heap.size + 1, 4, none⟩ = some (.slice none 0 0) ∧ wx.cell? ⟨w3.heap.size + 1, 5, none⟩ = some (.slice none 0 0)) := Lib.hid fun wx hx => by
        have hx7 := HW9.out.trans (hx.mono HW9.out.size)
        have hq := (KEY.out _ hx7).2.2.2
        refine ⟨?_, HCELL.out _ hx7⟩
        obtain rfl | rfl | rfl | rfl | rfl : k = 0 ∨ k = 1 ∨ k = 2 ∨ k = 3 ∨ k = 4 := by omega
        all_goals (unfold World.cell?; simp [hq]; rfl)
      generalize nameBy k = nm at HBY HCL
      go_upto_region 11 with fail
      have HD0 : Hid (Below W9.heap.size W9 W9.drew) := Lib.hid (Below.refl W9.heap.size W9).drew
      go_cut [11, 12] (fun v11 v12 wx => ∃ (B11 : Nat) (how : Int) (z : J), ∃ pk ph pt d1 q1 s1 d2 q2 s2 d3 q3 s3, v11 = .pointer (some ⟨B11, 0, none⟩) ∧ v12 = .int .i64 how ∧ Box wx B11 pk ph pt (.slice d1 q1 s1) (.slice d2 q2 s2) (.slice d3 q3 s3) ∧ Below W9.heap.size W9 wx ∧ RX wx z (.agg #[.int .i64 pk, .int .i64 ph, .string pt, .slice d1 q1 s1, .slice d2 q2 s2, .slice d3 q3 s3]) ∧ z.ok ∧ (how = 2 ∨ (how = 0 ∧ z = byJ lj kj k)))
      case first =>
        refine wp_region_S (fun i => decide (11 ≤ i)) (fun w4 => Below W9.heap.size W9 w4) (fun _ => True) (by kernel_rfl) ?_
        refine wpAnyS_takeU 0 ⟨some 52, .move (.tmp 9), _, _, _, none⟩ (v := ?_) rfl (by kernel_rfl) (by kernel_rfl) (by kernel_rfl) (by kernel_rfl) (by kernel_rfl) (fun _ _ _ h => h) (Or.inl ⟨by rfl, ?_⟩) ⟨trivial, HD0.out⟩ ?_
        rotate_left
        · (intro x hx; clear hx; go_simp; try with_reducible rfl)
        try simp only [Act.put, List.setIfInBounds_toArray, List.set_cons_zero, List.set_cons_succ]
        refine wpAnyS_takeU 1 ⟨some 53, .indexAddr 41 (.tmp 7) (.tmp 52), _, _, _, none⟩ (v := ?_) rfl (by kernel_rfl) (by kernel_rfl) (by kernel_rfl) (by kernel_rfl) (by kernel_rfl) (fun _ _ _ h => h) (Or.inl ⟨by rfl, ?_⟩) ⟨trivial, HD0.out⟩ ?_
        rotate_left
        · (intro x hx; clear hx; go_simp; try with_reducible rfl)
        try simp only [Act.put, List.setIfInBounds_toArray, List.set_cons_zero, List.set_cons_succ]
        refine wpAnyS_takeU 2 ⟨some 54, .load 9 (.tmp 53), _, _, _, none⟩ (v := ?_) rfl (by kernel_rfl) (by kernel_rfl) (by kernel_rfl) (by kernel_rfl) (by kernel_rfl) (fun _ _ _ h => h) (Or.inl ⟨by rfl, ?_⟩) ⟨trivial, HD0.out⟩ ?_
        rotate_left
        · (intro x hx; obtain ⟨-, hs⟩ := hx; obtain ⟨nmc, ⟨x0, x1, x2, x3, x4, x5⟩, y0, y1, y2, y3, y4, y5⟩ := HCL.out _ hs; go_simp; try with_reducible rfl)
        try simp only [Act.put, List.setIfInBounds_toArray, List.set_cons_zero, List.set_cons_succ]
        refine wpAnyS_takeU 3 ⟨some 55, .load 26 (.tmp 5), _, _, _, none⟩ (v := ?_) rfl (by kernel_rfl) (by kernel_rfl) (by kernel_rfl) (by kernel_rfl) (by kernel_rfl) (fun _ _ _ h => h) (Or.inl ⟨by rfl, ?_⟩) ⟨trivial, HD0.out⟩ ?_
        rotate_left
        · (intro x hx; obtain ⟨-, hs⟩ := hx; obtain ⟨nmc, ⟨x0, x1, x2, x3, x4, x5⟩, y0, y1, y2, y3, y4, y5⟩ := HCL.out _ hs; go_simp; try with_reducible rfl)
        try simp only [Act.put, List.setIfInBounds_toArray, List.set_cons_zero, List.set_cons_succ]
        refine wpAnyS_takeU 4 ⟨some 56, .load 26 (.tmp 6), _, _, _, none⟩ (v := ?_) rfl (by kernel_rfl) (by kernel_rfl) (by kernel_rfl) (by kernel_rfl) (by kernel_rfl) (fun _ _ _ h => h) (Or.inl ⟨by rfl, ?_⟩) ⟨trivial, HD0.out⟩ ?_
        rotate_left
        · (intro x hx; obtain ⟨-, hs⟩ := hx; obtain ⟨nmc, ⟨x0, x1, x2, x3, x4, x5⟩, y0, y1, y2, y3, y4, y5⟩ := HCL.out _ hs; go_simp; try with_reducible rfl)
        try simp only [Act.put, List.setIfInBounds_toArray, List.set_cons_zero, List.set_cons_succ]
        refine wpAnyS_ready [5, 9] (by kernel_rfl) (by simp) ?_
        refine AllReadyS.cons ⟨some 57, .call { callee := .value (.func 25), args := #[.tmp 54, .tmp 55, .tmp 56], argTypes := #[9, 26, 26] }, _, _, _, none⟩ rfl (fun K hK => ?_) (AllReadyS.cons ⟨some 11, .alloc 26, _, _, _, none⟩ rfl (fun K hK => ?_) AllReadyS.nil)
        · go_simp
          go_at_call 25
          refine (HBY.out _ HD0.out).mono ?_
          rintro e u5 ⟨c0, c1, c2, c3, c4, c5, how, z, rfl, hx, hj, hzo, hhow⟩
          obtain ⟨pk, ph, pt, d1, q1, s1, d2, q2, s2, d3, q3, s3, rfl, rfl, rfl, rfl, rfl, rfl⟩ := hj.shape6
          have HX5 := Lib.hid (HD0.out.trans (hx.mono HD0.out.size))
          have HZ5 := Lib.hid (And.intro hj (And.intro hzo hhow))
          have HXX := Lib.hid hx
          clear hx hj hzo hhow
          try go_simp
          refine hK _ _ trivial (fun _ _ => HX5.out) ?_
          clear hK K
          try simp only [Act.put, List.setIfInBounds_toArray, List.set_cons_zero, List.set_cons_succ]
          refine wpAnyS_takeU 6 ⟨some 51, .move (.tmp 57), _, _, _, none⟩ (v := ?_) rfl (by kernel_rfl) (by kernel_rfl) (by kernel_rfl) (by kernel_rfl) (by kernel_rfl) (fun _ _ _ h => h) (Or.inl ⟨by rfl, ?_⟩) ⟨trivial, HX5.out⟩ ?_
          rotate_left
          · (intro x hx; clear hx; go_simp; try with_reducible rfl)
          try simp only [Act.put, List.setIfInBounds_toArray, List.set_cons_zero, List.set_cons_succ]
          refine wpAnyS_takeU 7 ⟨some 58, .extract (.tmp 51) 0, _, _, _, none⟩ (v := ?_) rfl (by kernel_rfl) (by kernel_rfl) (by kernel_rfl) (by kernel_rfl) (by kernel_rfl) (fun _ _ _ h => h) (Or.inl ⟨by rfl, ?_⟩) ⟨trivial, HX5.out⟩ ?_
          rotate_left
          · (intro x hx; clear hx; go_simp; try with_reducible rfl)
          try simp only [Act.put, List.setIfInBounds_toArray, List.set_cons_zero, List.set_cons_succ]
          refine wpAnyS_takeU 8 ⟨some 59, .extract (.tmp 51) 1, _, _, _, none⟩ (v := ?_) rfl (by kernel_rfl) (by kernel_rfl) (by kernel_rfl) (by kernel_rfl) (by kernel_rfl) (fun _ _ _ h => h) (Or.inl ⟨by rfl, ?_⟩) ⟨trivial, HX5.out⟩ ?_
          rotate_left
          · (intro x hx; clear hx; go_simp; try with_reducible rfl)
          try simp only [Act.put, List.setIfInBounds_toArray, List.set_cons_zero, List.set_cons_succ]
          refine wpAnyS_ready [9] (by kernel_rfl) (by simp) ?_
          refine AllReadyS.cons ⟨some 11, .alloc 26, _, _, _, none⟩ rfl (fun K hK => ?_) AllReadyS.nil
          go_simp
          refine hK _ _ trivial (fun _ _ => HX5.out.alloc HX5.out.size _) ?_
          clear hK K
          try simp only [Act.put, List.setIfInBounds_toArray, List.set_cons_zero, List.set_cons_succ]
          generalize hz : World.alloc u5 _ = u6
          obtain ⟨hz1, hz2, hz3⟩ := alloc_facts hz
          have HBX : Hid (Box u6 u5.heap.size 0 0 ⟨#[]⟩ (.slice none 0 0) (.slice none 0 0) (.slice none 0 0)) := Lib.hid hz2
          have HY := Lib.hid (HX5.out.trans (hz1.mono HX5.out.size))
          have HLB := Lib.hid HX5.out.size
          have HJZ : Hid (JRep u6 (With S W9.drew.heap.size u5) z (.agg #[.int .i64 pk, .int .i64 ph, .string pt, .slice d1 q1 s1, .slice d2 q2 s2, .slice d3 q3 s3]) ∧ (∀ b, With S W9.drew.heap.size u5 b → b < u6.heap.size) ∧ ¬ With S W9.drew.heap.size u5 u5.heap.size) := Lib.hid (by
            have hl : ∀ b, With S W9.drew.heap.size u5 b → b < u5.heap.size := fun b hb => hb.elim (fun q => Nat.lt_of_lt_of_le (HSL.out b q) HX5.out.size) (fun q => q.2)
            exact ⟨HZ5.out.1.keep (.of_below hz1 hl) (fun _ h => h), fun b hb => by have := hl b hb; omega, fun hb => Nat.lt_irrefl _ (hl _ hb)⟩)
          clear hz hz1 hz2 hz3
          obtain ⟨z0, z1, z2, z3, z4, z5⟩ := HBX.out.c
          have zf := HBX.out.f
          refine wpAnyS_ready [10] (by kernel_rfl) (by simp) ?_
          refine AllReadyS.cons ⟨none, .store 26 (.tmp 11) (.tmp 58), _, _, _, none⟩ rfl (fun K hK => ?_) AllReadyS.nil
          go_simp
          refine hK _ _ trivial (fun _ _ => HY.out.trans (below_set6 HLB.out (.int .i64 pk) (.int .i64 ph) (.string pt) (.slice d1 q1 s1) (.slice d2 q2 s2) (.slice d3 q3 s3))) ?_
          clear hK K
          try simp only [Act.put, List.setIfInBounds_toArray, List.set_cons_zero, List.set_cons_succ]
          refine wpAnyS_rest 11 (fun _ => trivial) rfl (by kernel_rfl) (by kernel_rfl) ?_
          simp only [List.drop_succ_cons, List.drop_zero]
          go_wp2_with fail
          go_meet
          exact ⟨_, how, z, pk, ph, pt, d1, q1, s1, d2, q2, s2, d3, q3, s3, rfl, rfl, set6_box HBX.out, HY.out.trans (below_set6 HLB.out (.int .i64 pk) (.int .i64 ph) (.string pt) (.slice d1 q1 s1) (.slice d2 q2 s2) (.slice d3 q3 s3)), RX.set HJZ.out.1 HJZ.out.2.1 HJZ.out.2.2 (.int .i64 pk) (.int .i64 ph) (.string pt) (.slice d1 q1 s1) (.slice d2 q2 s2) (.slice d3 q3 s3), HZ5.out.2.1, HZ5.out.2.2⟩
        · go_simp
          refine hK _ _ trivial (fun _ _ => HD0.out.alloc HD0.out.size _) ?_
          clear hK K
          try simp only [Act.put, List.setIfInBounds_toArray, List.set_cons_zero, List.set_cons_succ]
          generalize hz : World.drew (World.alloc W9 _) = u4
          obtain ⟨hz1, hz2, hz3⟩ := alloc_facts (w := W9.drew) (o := .cells #[.int .i64 0, .int .i64 0, .string ⟨#[]⟩, .slice none 0 0, .slice none 0 0, .slice none 0 0] 26) (u := u4) hz
          have HD4 := Lib.hid (HD0.out.trans (hz1.mono HD0.out.size))
          have HBX4 : Hid (Box u4 W9.heap.size 0 0 ⟨#[]⟩ (.slice none 0 0) (.slice none 0 0) (.slice none 0 0)) := Lib.hid hz2
          have HS4 : Hid (u4.heap.size = W9.heap.size + 1) := Lib.hid hz3
          clear hz hz1 hz2 hz3
          refine wpAnyS_ready [5] (by kernel_rfl) (by simp) ?_
          refine AllReadyS.cons ⟨some 57, .call { callee := .value (.func 25), args := #[.tmp 54, .tmp 55, .tmp 56], argTypes := #[9, 26, 26] }, _, _, _, none⟩ rfl (fun K hK => ?_) AllReadyS.nil
          go_simp
          go_at_call 25
          refine (HBY.out _ HD4.out).mono ?_
          rintro e u5 ⟨c0, c1, c2, c3, c4, c5, how, z, rfl, hx, hj, hzo, hhow⟩
          obtain ⟨pk, ph, pt, d1, q1, s1, d2, q2, s2, d3, q3, s3, rfl, rfl, rfl, rfl, rfl, rfl⟩ := hj.shape6
          have HX5 := Lib.hid (HD4.out.trans (hx.mono HD4.out.size))
          have HZ5 := Lib.hid (And.intro hj (And.intro hzo hhow))
          have HXX := Lib.hid hx
          clear hx hj hzo hhow
          try go_simp
          refine hK _ _ trivial (fun _ _ => HX5.out) ?_
          clear hK K
          try simp only [Act.put, List.setIfInBounds_toArray, List.set_cons_zero, List.set_cons_succ]
          refine wpAnyS_takeU 6 ⟨some 51, .move (.tmp 57), _, _, _, none⟩ (v := ?_) rfl (by kernel_rfl) (by kernel_rfl) (by kernel_rfl) (by kernel_rfl) (by kernel_rfl) (fun _ _ _ h => h) (Or.inl ⟨by rfl, ?_⟩) ⟨trivial, HX5.out⟩ ?_
          rotate_left
          · (intro x hx; clear hx; go_simp; try with_reducible rfl)
          try simp only [Act.put, List.setIfInBounds_toArray, List.set_cons_zero, List.set_cons_succ]
          refine wpAnyS_takeU 7 ⟨some 58, .extract (.tmp 51) 0, _, _, _, none⟩ (v := ?_) rfl (by kernel_rfl) (by kernel_rfl) (by kernel_rfl) (by kernel_rfl) (by kernel_rfl) (fun _ _ _ h => h) (Or.inl ⟨by rfl, ?_⟩) ⟨trivial, HX5.out⟩ ?_
          rotate_left
          · (intro x hx; clear hx; go_simp; try with_reducible rfl)
          try simp only [Act.put, List.setIfInBounds_toArray, List.set_cons_zero, List.set_cons_succ]
          refine wpAnyS_takeU 8 ⟨some 59, .extract (.tmp 51) 1, _, _, _, none⟩ (v := ?_) rfl (by kernel_rfl) (by kernel_rfl) (by kernel_rfl) (by kernel_rfl) (by kernel_rfl) (fun _ _ _ h => h) (Or.inl ⟨by rfl, ?_⟩) ⟨trivial, HX5.out⟩ ?_
          rotate_left
          · (intro x hx; clear hx; go_simp; try with_reducible rfl)
          try simp only [Act.put, List.setIfInBounds_toArray, List.set_cons_zero, List.set_cons_succ]
          have HBX : Hid (Box u5 W9.heap.size 0 0 ⟨#[]⟩ (.slice none 0 0) (.slice none 0 0) (.slice none 0 0)) := Lib.hid ((HXX.out.block _ (by have := HS4.out; omega)).trans HBX4.out)
          have HY := HX5
          have HLB := Lib.hid (Nat.le_refl W9.heap.size)
          have HJZ : Hid (JRep u5 (With S u4.heap.size u5) z (.agg #[.int .i64 pk, .int .i64 ph, .string pt, .slice d1 q1 s1, .slice d2 q2 s2, .slice d3 q3 s3]) ∧ (∀ b, With S u4.heap.size u5 b → b < u5.heap.size) ∧ ¬ With S u4.heap.size u5 W9.heap.size) := Lib.hid (by
            refine ⟨HZ5.out.1, fun b hb => hb.elim (fun q => Nat.lt_of_lt_of_le (HSL.out b q) HX5.out.size) (fun q => q.2), fun hb => ?_⟩
            rcases hb with q | q
            · exact Nat.lt_irrefl _ (HSL.out _ q)
            · have := q.1; have := HS4.out; omega)
          obtain ⟨z0, z1, z2, z3, z4, z5⟩ := HBX.out.c
          have zf := HBX.out.f
          refine wpAnyS_ready [10] (by kernel_rfl) (by simp) ?_
          refine AllReadyS.cons ⟨none, .store 26 (.tmp 11) (.tmp 58), _, _, _, none⟩ rfl (fun K hK => ?_) AllReadyS.nil
          go_simp
          refine hK _ _ trivial (fun _ _ => HY.out.trans (below_set6 HLB.out (.int .i64 pk) (.int .i64 ph) (.string pt) (.slice d1 q1 s1) (.slice d2 q2 s2) (.slice d3 q3 s3))) ?_
          clear hK K
          try simp only [Act.put, List.setIfInBounds_toArray, List.set_cons_zero, List.set_cons_succ]
          refine wpAnyS_rest 11 (fun _ => trivial) rfl (by kernel_rfl) (by kernel_rfl) ?_
          simp only [List.drop_succ_cons, List.drop_zero]
          go_wp2_with fail
          go_meet
          exact ⟨_, how, z, pk, ph, pt, d1, q1, s1, d2, q2, s2, d3, q3, s3, rfl, rfl, set6_box HBX.out, HY.out.trans (below_set6 HLB.out (.int .i64 pk) (.int .i64 ph) (.string pt) (.slice d1 q1 s1) (.slice d2 q2 s2) (.slice d3 q3 s3)), RX.set HJZ.out.1 HJZ.out.2.1 HJZ.out.2.2 (.int .i64 pk) (.int .i64 ph) (.string pt) (.slice d1 q1 s1) (.slice d2 q2 s2) (.slice d3 q3 s3), HZ5.out.2.1, HZ5.out.2.2⟩
      obtain ⟨B11, how, z, pk, ph, pt, d1, q1, s1, d2, q2, s2, d3, q3, s3, rfl, rfl, hb11, hb9, hrz, hzo, hhow⟩ := hcut
      obtain ⟨z0, z1, z2, z3, z4, z5⟩ := hb11.c
      obtain ⟨x0, x1, x2, x3, x4, x5, x6⟩ := (show Box7 wc B10 rk rh rt (.slice a1 n1 m1) (.slice a2 n2 m2) (.slice a3 n3 m3) 0 from (hb9.block _ hl10).trans HB10.out).c
      have HT := Lib.hid (told_by wc (allB wc) (.int .i64 rk) (.int .i64 rh) (.string rt) (.slice a1 n1 m1) (.slice a2 n2 m2) (.slice a3 n3 m3) (.int .i64 pk) (.int .i64 ph) (.string pt) (.slice d1 q1 s1) (.slice d2 q2 s2) (.slice d3 q3 s3) hzo (fun _ h => h) (HR9.out.step hb9).all hrz.all hhow)
      have HB9 := Lib.hid hb9
      clear hb11 hb9 hrz hzo hhow
      go_wp2_with (go_at_call 26; refine HT.out.mono ?_; rintro e w6 ⟨rfl, hx⟩; have HX6 := Lib.hid hx; clear hx)
      go_roundw
      case rel => exact ⟨k + 1, by go_num, by omega, (HBL.out.trans (HB9.out.mono HBL.out.size)).trans (HX6.out.mono (Nat.le_trans HBL.out.size HB9.out.size))⟩
      case measure => simp [Go.RowKit.intOf]; omega
    · have hge : ¬ (k : Int) < 5 := by omega
      go_wp2_with fail
      exact bodyPost_ret (v := .bool true) (by simp [results, Tryz.results4, go_sem]) rfl ⟨rfl, (KEY.out _ (HBEL.out.trans (HBW.out.mono HBEL.out.size))).1⟩
end Go.Gj
