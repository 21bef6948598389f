/-
  funcJoin's own iterator: the texts that it hands on, one after the other.
-/
import Derived.Test.YtnlndpgbhmkanaaGreatDoorWJ5
import Derived.Test.YtnlndpgbhmkanaaGreatDoorErrL
import Derived.RangeFuncNested
import Derived.RangeFuncBound
import Derived.RangeFuncBox
import Derived.RangeFuncCalls
import Derived.RangeFuncLeaves
import Derived.Shelf.Abstract
import Derived.Shelf.RegionOpen
import Derived.WalkKit
import Derived.OwnWalkIn
import Derived.TacticsInMore
import Derived.LoopNIn
import Derived.LoopIn
import Derived.Shelf.Strings.BuilderK
import Derived.RangeFuncFrom
import Derived.Test.YtnlndpgbhmkanaaGreatDoorWAns
namespace Go.Gj
set_option linter.unusedSimpArgs false
set_option linter.unusedVariables false
set_option linter.unnecessarySimpa false
open Go Go.RowKit Go.Proofs Go.Shelf

attribute [local go_sem] Oper.semAt_some

/-- What join takes: its value of any, and its text. -/
def jAny : J → Value
  | .bool b => .iface 4 (.bool b)
  | .num h => .iface 3 (.int .i64 (h / 2))
  | .str s => .iface 9 (.string s)
  | _ => .nilIface
def jTxt : J → Option ByteArray
  | .bool b => some (boolB b)
  | .num h => some (itoaB (h / 2))
  | .str s => some s
  | _ => none
def joinable : J → Prop
  | .null => True
  | .bool _ => True
  | .num h => h % 2 = 0 ∧ -1000000000000000 ≤ h / 2 ∧ h / 2 ≤ 1000000000000000
  | .str s => s.size ≤ 4096
  | _ => False

/-- What is handed on in a round: nil or a text. -/
abbrev Yd := { o : Option ByteArray // ∀ s, o = some s → s.size ≤ 5000 }
def encY (x : Yd) : Value := match x.1 with
  | none => .nilIface
  | some s => .iface 9 (.string s)

theorem jTxt_size (x : J) (h : joinable x) : ∀ s, jTxt x = some s → s.size ≤ 5000 := by
  intro s hs
  cases x with
  | null => cases hs
  | bool b => obtain rfl := Option.some.inj hs; cases b <;> decide
  | num h' =>
    obtain rfl := Option.some.inj hs
    have := Lib.itoa_length_le (h' / 2) (by have := h.2.1; omega) (by have := h.2.2; omega)
    rw [itoa_size]; omega
  | str s' => obtain rfl := Option.some.inj hs; have : s'.size ≤ 4096 := h; omega
  | arr l => cases hs
  | obj ks vs => cases hs

def sepY (t : ByteArray) (ht : t.size ≤ 100) (k : Nat) : Yd := if k = 0 then ⟨some ⟨#[]⟩, fun s h => by obtain rfl := Option.some.inj h; exact Nat.zero_le _⟩ else ⟨some t, fun s h => by obtain rfl := Option.some.inj h; omega⟩
def valY (p : List J) (hp : ∀ x ∈ p, joinable x) (k : Nat) : Yd := if h : k < p.length then ⟨jTxt p[k], jTxt_size _ (hp _ (List.getElem_mem h))⟩ else ⟨none, fun s h => by cases h⟩
def ylist (t : ByteArray) (ht : t.size ≤ 100) (p : List J) (hp : ∀ x ∈ p, joinable x) : Nat → List Yd
  | 0 => []
  | k + 1 => ylist t ht p hp k ++ [sepY t ht k] ++ [valY p hp k]
theorem ylist_length {t : ByteArray} {ht : t.size ≤ 100} {p : List J} {hp : ∀ x ∈ p, joinable x} (k : Nat) : (ylist t ht p hp k).length = 2 * k := by
  induction k with
  | zero => rfl
  | succ k ih => simp [ylist, ih]; omega

theorem grown_of_below {w w' : World} (h : Below w.heap.size w w') : w.grownBy w' none := ⟨h.os, h.tape, h.output, h.size, fun k hk _ => h.block k hk⟩

theorem marshal_bool (y : Bool) (w : World) : Calls Tryz.prog 145 #[.iface 4 (.bool y)] w fun e w' => e = .returned (.string (boolB y)) ∧ Below w.heap.size w w' := by
  cases y
  · exact jsonMarshal_ok (.iface 4 (.bool false)) _ rfl w
  · exact jsonMarshal_ok (.iface 4 (.bool true)) _ rfl w
theorem marshal_int (n : Int) (h1 : -1000000000000000 ≤ n) (h2 : n ≤ 1000000000000000) (w : World) : Calls Tryz.prog 145 #[.iface 3 (.int .i64 n)] w fun e w' => e = .returned (.string (itoaB n)) ∧ Below w.heap.size w w' :=
  jsonMarshal_ok (.iface 3 (.int .i64 n)) (Lib.itoa n) (by simp only [txtOf]; rw [if_pos ⟨by omega, by omega⟩]) w

set_option maxRecDepth 100000 in
set_option maxHeartbeats 4000000 in
theorem join1_in (n : Nat) (hn : 1 ≤ n) (l B1 B2 n₀ b off cap : Nat) (t : ByteArray) (ht : t.size ≤ 100) (p : List J) (hp : ∀ x ∈ p, joinable x) (hlen : p.length ≤ 100) (hb : b < n₀) (h1 : B1 < n₀) (h2 : B2 < n₀) (J Jx : List Yd → World → Prop)
    (W : World) (hn₀ : n₀ ≤ W.heap.size) (hJab : ∀ s A B row, J s A → A.grownBy B row → (∀ r, row = some r → W.heap.size ≤ r ∧ ∃ o : Obj, A.heap[r]? = some o ∧ o.isWalk = true) → J s B)
    (hY : ∀ pre x W, J pre W → pre.length < 2 * p.length → YieldAt Fence.wide (n - 1) Tryz.prog l #[encY x] W fun e W' =>
      (e = .returned (.bool true) ∧ J (pre ++ [x]) W' ∧ Below n₀ W W') ∨ (e = .returned (.bool false) ∧ Jx (pre ++ [x]) W'))
    (hB1 : W.cell? ⟨B1, 0, none⟩ = some (.slice (some ⟨b, off, none⟩) p.length cap)) (hB2 : W.cell? ⟨B2, 0, none⟩ = some (.iface 9 (.string t)))
    (hc : ∀ j (hj : j < p.length), W.cell? ⟨b, off + j, none⟩ = some (jAny p[j])) (h0 : J [] W) :
    CallsIn Fence.wide n Tryz.prog 144 #[.func (.yield l) #[] #[], .pointer (some ⟨B1, 0, none⟩), .pointer (some ⟨B2, 0, none⟩)] W fun e W' => (∃ v, e = .returned v) ∧
      ((∃ ys, ys = ylist t ht p hp p.length ∧ J ys W') ∨ (∃ pre, True ∧ Jx pre W')) := by
  refine callsIn_of_wp Tryz.func144 rfl trivial ?_ rfl
  simp only [Tryz.ntmps144, List.size_toArray, List.length_cons, List.length_nil, Nat.reduceAdd, Nat.reduceSub, Array.replicate_succ, Array.replicate_zero, List.push_toArray, List.append_toArray, List.nil_append, List.cons_append]
  gi_wp2
  gi_loopw [10] (fun i wr => ∃ k : Nat, k ≤ p.length ∧ i = .int .i64 k ∧ J (ylist t ht p hp k) wr ∧ Below n₀ W wr)
    (fun i _ => p.length - (RowKit.intOf i).toNat)
  case atStart => exact ⟨0, Nat.zero_le _, rfl, h0, Below.refl _ _⟩
  case round =>
    obtain ⟨k, hk, rfl, hJs, hnx⟩ := hrel
    by_cases hlt : k < p.length
    · have hcx : wr.cell? ⟨b, off + k, none⟩ = some (jAny p[k]) := (hnx.cell (p := ⟨b, off + k, none⟩) hb).trans (hc k hlt)
      have hB2' : wr.cell? ⟨B2, 0, none⟩ = some (.iface 9 (.string t)) := (hnx.cell (p := ⟨B2, 0, none⟩) h2).trans hB2
      have hjx := hp _ (List.getElem_mem hlt)
      have hVal : ∀ x : Gj.J, p[k] = x → encY (valY p hp k) = (match jTxt x with | none => .nilIface | some s => .iface 9 (.string s)) := fun x hx => by subst hx; unfold valY; rw [dif_pos hlt]; rfl
      have HV := Lib.hid hVal
      generalize hx : p[k] = x at hcx hjx
      have HN := Lib.hid (HV.out x hx)
      clear hVal HV
      have hstep : ∀ W4, J (ylist t ht p hp k ++ [sepY t ht k] ++ [valY p hp k]) W4 → J (ylist t ht p hp (k + 1)) W4 := fun _ h => h
      obtain ⟨fn, tmps, assign, body, hy, hR⟩ := hY _ (sepY t ht k) wr hJs (by rw [ylist_length]; omega)
      have HY2 := Lib.hid (fun W3 (h3 : J (ylist t ht p hp k ++ [sepY t ht k]) W3) => hY _ (valY p hp k) W3 h3 (by simp [ylist_length]; omega))
      have HST := Lib.hid hstep
      clear hc hB1 hB2 hY hstep
      have hte : encY (sepY t ht k) = .iface 9 (.string (if k = 0 then ⟨#[]⟩ else t)) := by unfold sepY; split <;> rfl
      rw [hte] at hy
      clear hte
      rcases Nat.eq_zero_or_pos k with hk0 | hkp
      · subst hk0
        simp only [Nat.add_zero] at hcx
        rw [if_pos rfl] at hy
        gi_wp2
        refine hR.mono ?_
        rintro e W3 (⟨rfl, hJ3, hk3⟩ | ⟨rfl, hJx3⟩)
        · cases x with
          | null =>
            obtain ⟨fn2, tmps2, assign2, body2, hy2, hR2⟩ := HY2.out W3 hJ3
            rw [HN.out] at hy2
            simp only [jTxt] at hy2
            simp only [jAny]
            gi_wp2
            refine hR2.mono ?_
            rintro e W4 (⟨rfl, hJ4, hk4⟩ | ⟨rfl, hJx4⟩)
            · gi_wp2
              go_roundw
              case rel => exact ⟨_, hlt, by go_num, HST.out _ hJ4, hnx.trans (hk3.trans hk4)⟩
              case measure => simp [RowKit.intOf]; omega
            · gi_wp2
              refine bodyPost_ret (results_none rfl _ _ _) rfl ?_
              exact ⟨⟨_, rfl⟩, .inr ⟨_, trivial, hJx4⟩⟩
          | str s =>
            obtain ⟨fn2, tmps2, assign2, body2, hy2, hR2⟩ := HY2.out W3 hJ3
            rw [HN.out] at hy2
            simp only [jTxt] at hy2
            simp only [jAny]
            gi_wp2
            refine hR2.mono ?_
            rintro e W4 (⟨rfl, hJ4, hk4⟩ | ⟨rfl, hJx4⟩)
            · gi_wp2
              go_roundw
              case rel => exact ⟨_, hlt, by go_num, HST.out _ hJ4, hnx.trans (hk3.trans hk4)⟩
              case measure => simp [RowKit.intOf]; omega
            · gi_wp2
              refine bodyPost_ret (results_none rfl _ _ _) rfl ?_
              exact ⟨⟨_, rfl⟩, .inr ⟨_, trivial, hJx4⟩⟩
          | bool y =>
            have HM := Lib.hid (callsIn_wide (n := n - 1).2 (marshal_bool y W3))
            simp only [jAny]
            gi_wp2_with (refine ⟨trivial, ?_⟩; gi_at_call 145; refine HM.out.mono ?_; rintro e W5 ⟨rfl, hx5⟩; have hJ5 := hJab _ _ _ none hJ3 (grown_of_below hx5) (by simp); obtain ⟨fn2, tmps2, assign2, body2, hy2, hR2⟩ := HY2.out W5 hJ5; rw [HN.out] at hy2; simp only [jTxt] at hy2)
            refine hR2.mono ?_
            rintro e W4 (⟨rfl, hJ4, hk4⟩ | ⟨rfl, hJx4⟩)
            · gi_wp2
              go_roundw
              case rel => exact ⟨_, hlt, by go_num, HST.out _ hJ4, hnx.trans (hk3.trans ((hx5.mono (Nat.le_trans hn₀ (Nat.le_trans hnx.size hk3.size))).trans hk4))⟩
              case measure => simp [RowKit.intOf]; omega
            · gi_wp2
              refine bodyPost_ret (results_none rfl _ _ _) rfl ?_
              exact ⟨⟨_, rfl⟩, .inr ⟨_, trivial, hJx4⟩⟩
          | num h =>
            have HM := Lib.hid (callsIn_wide (n := n - 1).2 (marshal_int (h / 2) hjx.2.1 hjx.2.2 W3))
            simp only [jAny]
            gi_wp2_with (refine ⟨trivial, ?_⟩; gi_at_call 145; refine HM.out.mono ?_; rintro e W5 ⟨rfl, hx5⟩; have hJ5 := hJab _ _ _ none hJ3 (grown_of_below hx5) (by simp); obtain ⟨fn2, tmps2, assign2, body2, hy2, hR2⟩ := HY2.out W5 hJ5; rw [HN.out] at hy2; simp only [jTxt] at hy2)
            refine hR2.mono ?_
            rintro e W4 (⟨rfl, hJ4, hk4⟩ | ⟨rfl, hJx4⟩)
            · gi_wp2
              go_roundw
              case rel => exact ⟨_, hlt, by go_num, HST.out _ hJ4, hnx.trans (hk3.trans ((hx5.mono (Nat.le_trans hn₀ (Nat.le_trans hnx.size hk3.size))).trans hk4))⟩
              case measure => simp [RowKit.intOf]; omega
            · gi_wp2
              refine bodyPost_ret (results_none rfl _ _ _) rfl ?_
              exact ⟨⟨_, rfl⟩, .inr ⟨_, trivial, hJx4⟩⟩
          | arr l => exact hjx.elim
          | obj ks vs => exact hjx.elim
        · gi_wp2
          refine bodyPost_ret (results_none rfl _ _ _) rfl ?_
          exact ⟨⟨_, rfl⟩, .inr ⟨_, trivial, hJx3⟩⟩
      · rw [if_neg (by omega)] at hy
        have hk1 : ((k : Int) == 0) = false := by simp; omega
        gi_wp2
        refine hR.mono ?_
        rintro e W3 (⟨rfl, hJ3, hk3⟩ | ⟨rfl, hJx3⟩)
        · cases x with
          | null =>
            obtain ⟨fn2, tmps2, assign2, body2, hy2, hR2⟩ := HY2.out W3 hJ3
            rw [HN.out] at hy2
            simp only [jTxt] at hy2
            simp only [jAny]
            gi_wp2
            refine hR2.mono ?_
            rintro e W4 (⟨rfl, hJ4, hk4⟩ | ⟨rfl, hJx4⟩)
            · gi_wp2
              go_roundw
              case rel => exact ⟨_, hlt, by go_num, HST.out _ hJ4, hnx.trans (hk3.trans hk4)⟩
              case measure => simp [RowKit.intOf]; omega
            · gi_wp2
              refine bodyPost_ret (results_none rfl _ _ _) rfl ?_
              exact ⟨⟨_, rfl⟩, .inr ⟨_, trivial, hJx4⟩⟩
          | str s =>
            obtain ⟨fn2, tmps2, assign2, body2, hy2, hR2⟩ := HY2.out W3 hJ3
            rw [HN.out] at hy2
            simp only [jTxt] at hy2
            simp only [jAny]
            gi_wp2
            refine hR2.mono ?_
            rintro e W4 (⟨rfl, hJ4, hk4⟩ | ⟨rfl, hJx4⟩)
            · gi_wp2
              go_roundw
              case rel => exact ⟨_, hlt, by go_num, HST.out _ hJ4, hnx.trans (hk3.trans hk4)⟩
              case measure => simp [RowKit.intOf]; omega
            · gi_wp2
              refine bodyPost_ret (results_none rfl _ _ _) rfl ?_
              exact ⟨⟨_, rfl⟩, .inr ⟨_, trivial, hJx4⟩⟩
          | bool y =>
            have HM := Lib.hid (callsIn_wide (n := n - 1).2 (marshal_bool y W3))
            simp only [jAny]
            gi_wp2_with (refine ⟨trivial, ?_⟩; gi_at_call 145; refine HM.out.mono ?_; rintro e W5 ⟨rfl, hx5⟩; have hJ5 := hJab _ _ _ none hJ3 (grown_of_below hx5) (by simp); obtain ⟨fn2, tmps2, assign2, body2, hy2, hR2⟩ := HY2.out W5 hJ5; rw [HN.out] at hy2; simp only [jTxt] at hy2)
            refine hR2.mono ?_
            rintro e W4 (⟨rfl, hJ4, hk4⟩ | ⟨rfl, hJx4⟩)
            · gi_wp2
              go_roundw
              case rel => exact ⟨_, hlt, by go_num, HST.out _ hJ4, hnx.trans (hk3.trans ((hx5.mono (Nat.le_trans hn₀ (Nat.le_trans hnx.size hk3.size))).trans hk4))⟩
              case measure => simp [RowKit.intOf]; omega
            · gi_wp2
              refine bodyPost_ret (results_none rfl _ _ _) rfl ?_
              exact ⟨⟨_, rfl⟩, .inr ⟨_, trivial, hJx4⟩⟩
          | num h =>
            have HM := Lib.hid (callsIn_wide (n := n - 1).2 (marshal_int (h / 2) hjx.2.1 hjx.2.2 W3))
            simp only [jAny]
            gi_wp2_with (refine ⟨trivial, ?_⟩; gi_at_call 145; refine HM.out.mono ?_; rintro e W5 ⟨rfl, hx5⟩; have hJ5 := hJab _ _ _ none hJ3 (grown_of_below hx5) (by simp); obtain ⟨fn2, tmps2, assign2, body2, hy2, hR2⟩ := HY2.out W5 hJ5; rw [HN.out] at hy2; simp only [jTxt] at hy2)
            refine hR2.mono ?_
            rintro e W4 (⟨rfl, hJ4, hk4⟩ | ⟨rfl, hJx4⟩)
            · gi_wp2
              go_roundw
              case rel => exact ⟨_, hlt, by go_num, HST.out _ hJ4, hnx.trans (hk3.trans ((hx5.mono (Nat.le_trans hn₀ (Nat.le_trans hnx.size hk3.size))).trans hk4))⟩
              case measure => simp [RowKit.intOf]; omega
            · gi_wp2
              refine bodyPost_ret (results_none rfl _ _ _) rfl ?_
              exact ⟨⟨_, rfl⟩, .inr ⟨_, trivial, hJx4⟩⟩
          | arr l => exact hjx.elim
          | obj ks vs => exact hjx.elim
        · gi_wp2
          refine bodyPost_ret (results_none rfl _ _ _) rfl ?_
          exact ⟨⟨_, rfl⟩, .inr ⟨_, trivial, hJx3⟩⟩
    · obtain rfl : k = p.length := by omega
      gi_wp2
      go_end0
      exact ⟨⟨_, rfl⟩, .inl ⟨_, rfl, hJs⟩⟩
end Go.Gj

/-
  add, over what funcJoin's iterator hands on: the texts, one behind the other.
-/
namespace Go.Gj
set_option linter.unusedSimpArgs false
set_option linter.unusedVariables false
set_option linter.unnecessarySimpa false
open Go Go.RowKit Go.Proofs Go.Shelf

attribute [local go_sem] Oper.semAt_some

set_option maxHeartbeats 2000000 in
set_option maxRecDepth 100000 in
theorem WriteString_k (B b : Nat) (bs : List Value) (s : ByteArray) (w : World) (h : IsB B b bs w) (hlen : bs.length + s.size ≤ 140737488355328) (hBw : B ≤ w.heap.size) :
    Calls Tryz.prog 189 #[.pointer (some ⟨b, 0, none⟩), .string s] w fun e w' => e = .returned (.tuple #[.int .i64 s.size, .nilIface]) ∧ BAt B b (bs ++ Lib.strCells s) w' ∧ Below B w w' ∧ Lib.OthersKept 5 (some b) w w' := by
  obtain ⟨i0, hi, hz0, hz1, hz2⟩ := info_parts infoByte
  have HC := Lib.hid (copyCheck_ok2 B b bs w h)
  clear h
  go_enter Tryz.func189, Tryz.ntmps189
  go_wp2_with (go_at_call 239; refine HC.out.mono ?_)
  rintro e w1 ⟨rfl, h1, hb1, hk1⟩
  have HK1 := Lib.hid hk1
  clear hk1
  obtain ⟨hB, v, hbk, hown, hne⟩ := h1
  have c0 : w1.cell? ⟨b, 0, none⟩ = some (.pointer (some ⟨b, 0, none⟩)) := by rw [Lib.cell_of_heap hbk]; rfl
  have c1 : w1.cell? ⟨b, 1, none⟩ = some v := by rw [Lib.cell_of_heap hbk]; rfl
  go_wp2_with (at_builtin; refine Lib.wpList_append_own_string _ rfl _ _ 239 9 rfl B 5 i0 Tryz.underlying239 Tryz.underlying9 hi hz0 hz1 hz2 _ _ _ rfl hown s rfl ?c3 ?c4 ?c5 ?_)
  case c3 => unfold maxLen; omega
  case c4 => omega
  case c5 => have := hb1.size; omega
  intro v' w2 hown' hgrow _
  have hlt : b < w1.heap.size := by
    rcases Nat.lt_or_ge b w1.heap.size with h' | h'
    · exact h'
    · simp [Array.getElem?_eq_none h'] at hbk
  have hb2 : w2.heap[b]? = some (.cells #[.pointer (some ⟨b, 0, none⟩), v] 241 (0, 0)) := by
    rw [hgrow.block b hlt (fun e => hne e.symm)]
    exact hbk
  have d0 : w2.cell? ⟨b, 0, none⟩ = some (.pointer (some ⟨b, 0, none⟩)) := by rw [Lib.cell_of_heap hb2]; rfl
  have d1 : w2.cell? ⟨b, 1, none⟩ = some v := by rw [Lib.cell_of_heap hb2]; rfl
  have f1 : w2.frozen? ⟨b, 1, none⟩ = false := Lib.frozen_of_heap hb2 1
  obtain ⟨ao, n', cap, rfl⟩ : ∃ ao n' cap, v' = .slice ao n' cap := by
    rcases hown'.2 with ⟨hv, _⟩ | ⟨g, cap, cur, hv, _⟩
    · exact ⟨_, _, _, hv⟩
    · exact ⟨_, _, _, hv⟩
  go_wp2
  go_ret2
  refine ⟨rfl, ?_, ?_, ?_⟩
  · exact Lib.BuilderAt.put (T := 241) (e := 5) hB hb2 (bs' := bs ++ Lib.strCells s) (by simpa [Lib.strCells_length] using hown') (by decide)
  · exact (hb1.grown hgrow (by have := hb1.size; omega) (fun k hk => (hown.lt k hk).1)).setCell (p := ⟨b, 1, none⟩) hB _
  · have k1 : Lib.OthersKept 5 (some b) w w1 := fun k o hk hb _ => by rw [HK1.out k (fun e => hb (by rw [e]))]; exact hk
    have k2 : Lib.OthersKept 5 (some b) w w2 := k1.grown hgrow (fun g hg => by
      rcases hown.2 with ⟨rfl, _⟩ | ⟨g', cap', cur, rfl, _, hh, _⟩
      · cases hg
      · obtain rfl : g' = g := by simpa [Value.ownBlock] using hg
        exact ⟨_, _, hh⟩)
    exact k2.setCell ⟨b, 1, none⟩ rfl _

theorem String_k (B b : Nat) (l : List UInt8) (w : World) (h : IsB B b (Lib.byteCells l) w) (hBw : B ≤ w.heap.size) :
    Calls Tryz.prog 191 #[.pointer (some ⟨b, 0, none⟩)] w fun e w' => e = .returned (.string (bytesOf l)) ∧ Below B w w' ∧ Lib.OthersKept 5 (some b) w w' :=
  (Any.Builder_String_any_k Tryz.lays169 Tryz.builderExtra B b l w (Lib.IsBuilderF.of h) hBw).mono fun e w' h => ⟨h.1, h.2.2.1, h.2.2.2⟩

theorem keeps_of_others {b : Nat} {w w' : World} (h : Lib.OthersKept 5 (some b) w w') (hs : w.heap.size ≤ w'.heap.size) {cs : Array Value} {T : TypeId} (hb : w.heap[b]? = some (.cells cs T (0, 0))) : KeepsOthers w w' :=
  ⟨hs, fun k o hk ho => h k o hk (fun e => by obtain rfl := Option.some.inj e; rw [hb] at hk; obtain rfl := Option.some.inj hk; cases ho) (fun c fz e => by subst e; cases ho)⟩

/-! ### what has come -/
def stepY (acc : Option (List UInt8)) (x : Yd) : Option (List UInt8) := match x.1 with
  | none => acc
  | some s => some (acc.getD [] ++ s.data.toList)
def flatO (pre : List Yd) : Option (List UInt8) := pre.foldl stepY none
theorem flatO_snoc (pre : List Yd) (x : Yd) : flatO (pre ++ [x]) = stepY (flatO pre) x := by simp [flatO]
theorem fold_len : ∀ (pre : List Yd) (acc : Option (List UInt8)) (k : Nat), (∀ l, acc = some l → l.length ≤ 5000 * k) → ∀ l, pre.foldl stepY acc = some l → l.length ≤ 5000 * (k + pre.length)
  | [], acc, k, h, l, hl => by have := h l hl; simp; omega
  | x :: pre, acc, k, h, l, hl => by
    have := fold_len pre (stepY acc x) (k + 1) (fun l' hl' => by
      obtain ⟨o, ho⟩ := x
      cases o with
      | none => have := h l' hl'; omega
      | some s =>
        simp only [stepY, Option.some.injEq] at hl'
        have hs := ho s rfl
        have h2 : (acc.getD []).length ≤ 5000 * k := by
          cases acc with
          | none => simp
          | some l'' => exact h l'' rfl
        rw [← hl']
        simp only [List.length_append]
        have : s.data.toList.length = s.size := by simp
        omega) l hl
    simp only [List.length_cons]
    omega
theorem flatO_len (pre : List Yd) (l : List UInt8) (h : flatO pre = some l) : l.length ≤ 5000 * pre.length := by
  have := fold_len pre none 0 (fun l h => by cases h) l h
  omega

/-- Between two rounds. -/
def AI (w0 : World) (pre : List Yd) (W : World) : Prop :=
  Below w0.heap.size w0 W ∧ w0.heap.size + 2 ≤ W.heap.size ∧ W.heap[w0.heap.size]? = some (.cells #[.nilIface] 20 (0, 0)) ∧
    ((flatO pre = none ∧ W.heap[w0.heap.size + 1]? = some (.cells #[.nilIface] 20 (0, 0))) ∨
      ∃ l b, flatO pre = some l ∧ W.heap[w0.heap.size + 1]? = some (.cells #[.iface 238 (.pointer (some ⟨b, 0, none⟩))] 20 (0, 0)) ∧ IsB (w0.heap.size + 2) b (Lib.byteCells l) W)

theorem kept_cells {W W' : World} {row : Option Nat} (hg : W.grownBy W' row) {B : Nat} (hr : ∀ r, row = some r → B ≤ r ∧ ∃ o : Obj, W.heap[r]? = some o ∧ o.isCells = false) {k : Nat} {cs : Array Value} {T : TypeId} {fz : Nat × Nat} (h : W.heap[k]? = some (.cells cs T fz)) : W'.heap[k]? = some (.cells cs T fz) :=
  (hg.block k (Array.getElem?_eq_some_iff.1 h).1 (fun e => by
    obtain ⟨_, o, ho, hc⟩ := hr k e.symm
    rw [h] at ho
    obtain rfl := Option.some.inj ho
    cases hc)).trans h

theorem isB_kept {B b : Nat} {bs : List Value} {W W' : World} (hk : ∀ (k : Nat) (cs : Array Value) (T : TypeId) (fz : Nat × Nat), W.heap[k]? = some (Obj.cells cs T fz) → T ≠ 20 → W'.heap[k]? = some (Obj.cells cs T fz)) (h : IsB B b bs W) : IsB B b bs W' := by
  have one : ∀ p, Lib.BuilderAt 241 5 B b p bs W → Lib.BuilderAt 241 5 B b p bs W' := fun p h => by
    obtain ⟨hB, v, hb, hown, hne⟩ := h
    refine ⟨hB, v, hk _ _ _ _ hb (by decide), ?_, hne⟩
    obtain ⟨hl, h' | ⟨g, cap, cur, hv, hbg, hh, r⟩⟩ := hown
    · exact ⟨hl, .inl h'⟩
    · exact ⟨hl, .inr ⟨g, cap, cur, hv, hbg, hk _ _ _ _ hh (by decide), r⟩⟩
  exact h.imp (one _) (one _)

theorem AI_own (w0 : World) (B : Nat) (hB : w0.heap.size ≤ B) : OwnFrom B (AI w0) := fun pre W W' row hs hg hr => by
  obtain ⟨h1, h2, h3, h4⟩ := hs
  have hk : ∀ (k : Nat) (cs : Array Value) (T : TypeId) (fz : Nat × Nat), W.heap[k]? = some (Obj.cells cs T fz) → W'.heap[k]? = some (Obj.cells cs T fz) := fun k cs T fz h => kept_cells hg hr h
  refine ⟨h1.grown hg h1.size (fun k e => Nat.le_trans hB (hr k e).1), Nat.le_trans h2 hg.size, hk _ _ _ _ h3, ?_⟩
  rcases h4 with ⟨e, h⟩ | ⟨l, b, e, h, hb⟩
  · exact .inl ⟨e, hk _ _ _ _ h⟩
  · exact .inr ⟨l, b, e, hk _ _ _ _ h, isB_kept (fun k cs T fz h _ => hk k cs T fz h) hb⟩

theorem byteCells_app (l : List UInt8) (s : ByteArray) : Lib.byteCells l ++ Lib.strCells s = Lib.byteCells (l ++ s.data.toList) := by
  have e : Lib.strCells s = Lib.byteCells s.data.toList := rfl
  rw [e]
  simp [Lib.byteCells]

/-- A text behind none: a builder of its own. -/
theorem AI_first {w0 W w1 : World} {pre : List Yd} {s : ByteArray} {ho : ∀ s', some s = some s' → s'.size ≤ 5000} (hI : AI w0 pre W) (hf : flatO pre = none)
    (h1 : BAt (w0.heap.size + 2) W.heap.size ([] ++ Lib.strCells s) w1) (h2 : Below (w0.heap.size + 2) (W.alloc (.cells #[.pointer none, .slice none 0 0] 241)) w1) (h3 : Lib.OthersKept 5 (some W.heap.size) (W.alloc (.cells #[.pointer none, .slice none 0 0] 241)) w1) :
    w1.heap[w0.heap.size + 1]? = some (.cells #[.nilIface] 20 (0, 0)) ∧
    KeepsOthers W (w1.setCell ⟨w0.heap.size + 1, 0, none⟩ (.iface 238 (.pointer (some ⟨W.heap.size, 0, none⟩)))) ∧ Below w0.heap.size W (w1.setCell ⟨w0.heap.size + 1, 0, none⟩ (.iface 238 (.pointer (some ⟨W.heap.size, 0, none⟩)))) ∧
      AI w0 (pre ++ [⟨some s, ho⟩]) (w1.setCell ⟨w0.heap.size + 1, 0, none⟩ (.iface 238 (.pointer (some ⟨W.heap.size, 0, none⟩)))) := by
  obtain ⟨g1, g2, g3, g4⟩ := hI
  rcases g4 with ⟨_, g4⟩ | ⟨l, b, e, _⟩
  · have hnew : (W.alloc (.cells #[.pointer none, .slice none 0 0] 241)).heap[W.heap.size]? = some (.cells #[.pointer none, .slice none 0 0] 241 (0, 0)) := heap_alloc_new W _
    have old : ∀ k o, k < W.heap.size → W.heap[k]? = some o → (∀ c fz, o ≠ .cells c 5 fz) → w1.heap[k]? = some o := fun k o hk hh hn => h3 k o ((Go.Lib.alloc_old W _ k hk).trans hh) (by intro e; have := Option.some.inj e; omega) hn
    have b3 := old _ _ (by omega) g4 (by intro c fz e; injection e with _ e _; cases e)
    have b2 := old _ _ (by omega) g3 (by intro c fz e; injection e with _ e _; cases e)
    have hs1 : W.heap.size ≤ w1.heap.size := Nat.le_trans (by rw [size_alloc]; omega) h2.size
    have hbe : Below w0.heap.size W w1 := (((Below.refl w0.heap.size W).alloc g1.size _)).trans (h2.mono (by omega))
    refine ⟨b3, ((KeepsOthers.alloc W _).trans (keeps_of_others h3 h2.size hnew)).trans (KeepsOthers.setCell _ _ _), hbe.setCell (p := ⟨w0.heap.size + 1, 0, none⟩) (by show w0.heap.size ≤ w0.heap.size + 1; omega) _, ?_⟩
    have hset : (w1.setCell ⟨w0.heap.size + 1, 0, none⟩ (.iface 238 (.pointer (some ⟨W.heap.size, 0, none⟩)))).heap[w0.heap.size + 1]? = some (.cells #[.iface 238 (.pointer (some ⟨W.heap.size, 0, none⟩))] 20 (0, 0)) := by
      simp only [World.setCell, Array.getElem?_modify, if_true, b3, Option.map_some]
      rfl
    refine ⟨g1.trans (hbe.setCell (p := ⟨w0.heap.size + 1, 0, none⟩) (by show w0.heap.size ≤ w0.heap.size + 1; omega) _), ?_, ?_, .inr ⟨s.data.toList, W.heap.size, ?_, hset, ?_⟩⟩
    · have : (w1.setCell ⟨w0.heap.size + 1, 0, none⟩ (.iface 238 (.pointer (some ⟨W.heap.size, 0, none⟩)))).heap.size = w1.heap.size := by simp [World.setCell]
      omega
    · rw [heap_setCell_ne _ _ _ _ (by show w0.heap.size ≠ w0.heap.size + 1; omega)]
      exact b2
    · rw [flatO_snoc, hf]; simp [stepY]
    · refine isB_kept (W := w1) (fun k cs T fz hk hT => ?_) (.inr (by rw [List.nil_append] at h1; exact h1))
      rw [heap_setCell_ne _ _ _ _ (by
        show k ≠ w0.heap.size + 1
        rintro rfl
        rw [b3] at hk
        injection (Option.some.inj hk) with _ e _
        exact hT e.symm)]
      exact hk
  · rw [hf] at e; cases e

/-- A text behind others. -/
theorem AI_next {w0 W w1 : World} {pre : List Yd} {s : ByteArray} {ho : ∀ s', some s = some s' → s'.size ≤ 5000} {l : List UInt8} {b : Nat} (g1 : Below w0.heap.size w0 W) (g2 : w0.heap.size + 2 ≤ W.heap.size) (g3 : W.heap[w0.heap.size]? = some (.cells #[.nilIface] 20 (0, 0))) (hf : flatO pre = some l)
    (g4 : W.heap[w0.heap.size + 1]? = some (.cells #[.iface 238 (.pointer (some ⟨b, 0, none⟩))] 20 (0, 0))) (g5 : IsB (w0.heap.size + 2) b (Lib.byteCells l) W)
    (h1 : BAt (w0.heap.size + 2) b (Lib.byteCells l ++ Lib.strCells s) w1) (h2 : Below (w0.heap.size + 2) W w1) (h3 : Lib.OthersKept 5 (some b) W w1) :
    KeepsOthers W w1 ∧ Below w0.heap.size W w1 ∧ AI w0 (pre ++ [⟨some s, ho⟩]) w1 := by
  obtain ⟨cs, hcs⟩ : ∃ cs, W.heap[b]? = some (.cells cs 241 (0, 0)) := by
    rcases g5 with g | g
    · obtain ⟨_, v, hb, _⟩ := g; exact ⟨_, hb⟩
    · obtain ⟨_, v, hb, _⟩ := g; exact ⟨_, hb⟩
  have hb2 : w0.heap.size + 2 ≤ b := by
    rcases g5 with g | g
    · exact g.1
    · exact g.1
  have old : ∀ k o, k < w0.heap.size + 2 → W.heap[k]? = some o → w1.heap[k]? = some o := fun k o hk hh => (h2.block k hk).trans hh
  refine ⟨keeps_of_others h3 h2.size hcs, h2.mono (by omega), g1.trans (h2.mono (by omega)), Nat.le_trans g2 h2.size, old _ _ (by omega) g3, .inr ⟨l ++ s.data.toList, b, ?_, old _ _ (by omega) g4, .inr ?_⟩⟩
  · rw [flatO_snoc, hf]; rfl
  · rw [byteCells_app] at h1; exact h1
end Go.Gj

/-
  add, over what funcJoin's iterator hands on: the walk.
-/
namespace Go.Gj
set_option linter.unusedSimpArgs false
set_option linter.unusedVariables false
set_option linter.unnecessarySimpa false
open Go Go.RowKit Go.Proofs Go.Shelf

attribute [local go_sem] Oper.semAt_some

@[go_sem] theorem as_238_238 (v : Value) (w : World) : (Instr.typeAssert (.iface 238 v) 20 238 true).run Tryz.prog w = .ok (.tuple #[v, .bool true]) w := by kernel_rfl

set_option maxRecDepth 100000 in
theorem join_stops (n : Nat) (hn : 1 ≤ n) (B1 B2 n₀ b off cap : Nat) (t : ByteArray) (ht : t.size ≤ 100) (p : List J) (hp : ∀ x ∈ p, joinable x) (hlen : p.length ≤ 100) (hb : b < n₀) (h1 : B1 < n₀) (h2 : B2 < n₀) (w : World) (hn₀ : n₀ ≤ w.heap.size)
    (hB1 : w.cell? ⟨B1, 0, none⟩ = some (.slice (some ⟨b, off, none⟩) p.length cap)) (hB2 : w.cell? ⟨B2, 0, none⟩ = some (.iface 9 (.string t)))
    (hc : ∀ j (hj : j < p.length), w.cell? ⟨b, off + j, none⟩ = some (jAny p[j])) :
    SeqStopsK Fence.wide n Tryz.prog 144 #[.pointer (some ⟨B1, 0, none⟩), .pointer (some ⟨B2, 0, none⟩)] (fun x : Yd => #[encY x]) (Below n₀) (fun ys => ys = ylist t ht p hp p.length) (fun _ => True) (2 * p.length) w := fun l J' Jx W hW hJ hJx hY h0 => by
  have hWb : Below n₀ w W := hW.mono hn₀
  exact join1_in n hn l B1 B2 n₀ b off cap t ht p hp hlen hb h1 h2 J' Jx W (Nat.le_trans hn₀ hW.size) hJ hY ((hWb.cell (p := ⟨B1, 0, none⟩) h1).trans hB1) ((hWb.cell (p := ⟨B2, 0, none⟩) h2).trans hB2) (fun j hj => (hWb.cell (p := ⟨b, off + j, none⟩) hb).trans (hc j hj)) h0

set_option maxRecDepth 100000 in
set_option maxHeartbeats 4000000 in
theorem add_in (n : Nat) (hn : 4 ≤ n) (B1 B2 b off cap : Nat) (t : ByteArray) (ht : t.size ≤ 100) (p : List J) (hp : ∀ x ∈ p, joinable x) (hlen : p.length ≤ 100) (L : List UInt8) (hL : flatO (ylist t ht p hp p.length) = some L) (w : World) (hb : b < w.heap.size) (h1 : B1 < w.heap.size) (h2 : B2 < w.heap.size)
    (hB1 : w.cell? ⟨B1, 0, none⟩ = some (.slice (some ⟨b, off, none⟩) p.length cap)) (hB2 : w.cell? ⟨B2, 0, none⟩ = some (.iface 9 (.string t)))
    (hc : ∀ j (hj : j < p.length), w.cell? ⟨b, off + j, none⟩ = some (jAny p[j])) :
    CallsIn Fence.wide n Tryz.prog 143 #[.func (.func 144) #[] #[.pointer (some ⟨B1, 0, none⟩), .pointer (some ⟨B2, 0, none⟩)]] w fun e w' => e = .returned (.iface 9 (.string (bytesOf L))) ∧ Below w.heap.size w w' := by
  have hB := below2 w (.cells #[.nilIface] 20) (.cells #[.nilIface] 20)
  have e1 : (w.alloc (.cells #[.nilIface] 20)).heap.size = w.heap.size + 1 := size_alloc _ _
  have e2 : ((w.alloc (.cells #[.nilIface] 20)).alloc (.cells #[.nilIface] 20)).heap.size = w.heap.size + 2 := by rw [size_alloc, e1]
  have hx2 := Go.Lib.alloc_old (w.alloc (.cells #[.nilIface] 20)) (.cells #[.nilIface] 20) w.heap.size (by omega)
  rw [heap_alloc_new w] at hx2
  have hx3 := heap_alloc_new (w.alloc (.cells #[.nilIface] 20)) (.cells #[.nilIface] 20)
  rw [e1] at hx3
  refine callsIn_of_wp_marks Tryz.func143 rfl trivial ?_ rfl
  simp only [Tryz.ntmps143, List.size_toArray, List.length_cons, List.length_nil, Nat.reduceAdd, Nat.reduceSub, Array.replicate_succ, Array.replicate_zero, List.push_toArray, List.append_toArray, List.nil_append, List.cons_append]
  gi_wp2
  have hx2' := hx2
  have hB1' : ((w.alloc (.cells #[.nilIface] 20)).alloc (.cells #[.nilIface] 20)).cell? ⟨B1, 0, none⟩ = _ := (hB.cell (p := ⟨B1, 0, none⟩) h1).trans hB1
  have hB2' : ((w.alloc (.cells #[.nilIface] 20)).alloc (.cells #[.nilIface] 20)).cell? ⟨B2, 0, none⟩ = _ := (hB.cell (p := ⟨B2, 0, none⟩) h2).trans hB2
  have hc' : ∀ j (hj : j < p.length), ((w.alloc (.cells #[.nilIface] 20)).alloc (.cells #[.nilIface] 20)).cell? ⟨b, off + j, none⟩ = some (jAny p[j]) := fun j hj => (hB.cell (p := ⟨b, off + j, none⟩) hb).trans (hc j hj)
  have hI0 : AI w [] ((w.alloc (.cells #[.nilIface] 20)).alloc (.cells #[.nilIface] 20)) := ⟨hB, by omega, hx2, .inl ⟨rfl, hx3⟩⟩
  clear hx2' hx2 hx3 hB1 hB2 hc
  generalize (w.alloc (.cells #[.nilIface] 20)).alloc (.cells #[.nilIface] 20) = WW at *
  refine wpIn_rangeFunc_ownF rfl (by omega) (gf := 144) (lb := #[.pointer (some ⟨B1, 0, none⟩), .pointer (some ⟨B2, 0, none⟩)]) rfl trivial (enters_of Tryz.func144 (by kernel_rfl) rfl)
    (join_stops (n - 1) (by omega) B1 B2 w.heap.size b off cap t ht p hp hlen hb h1 h2 WW (by omega) hB1' hB2' hc') belowK_t (belowK_b (by omega)) (Below.refl _ _) (fun _ => rfl)
    (AI w) (fun _ _ _ => False) (AI_own w _ (by omega)) (fun _ _ _ _ _ hs _ _ => hs) hI0 (fun x => { tmps := #[.func (.func 144) #[] #[.pointer (some ⟨B1, 0, none⟩), .pointer (some ⟨B2, 0, none⟩)], undef, .pointer (some ⟨w.heap.size, 0, none⟩), .pointer (some ⟨w.heap.size + 1, 0, none⟩), encY x, undef, undef, undef, undef, undef, undef, undef, undef, undef, undef, undef, undef, undef, undef, undef, undef, undef, undef, .func (.func 144) #[] #[.pointer (some ⟨B1, 0, none⟩), .pointer (some ⟨B2, 0, none⟩)], encY x, undef, undef, undef, undef, undef, undef, undef, undef, undef, undef, undef, undef, undef, undef, undef, undef, undef, undef, undef, undef, undef, undef, undef, undef, undef, undef, undef, undef, undef, undef, undef, undef, undef, undef, undef, undef, undef, undef, undef, undef, undef, undef, undef, undef, undef, undef, undef, undef, undef, undef, undef, undef, undef, undef, undef, undef, undef, undef, undef, undef, undef, undef, undef, undef, undef, undef, undef, undef, undef, undef, undef, undef, undef, undef, undef, undef, undef, undef, undef], defers := [] }) ?assign ?body ?done ?stop
  case assign =>
    intro l x W K hK
    gi_wp2
    exact hK
  case body =>
    rintro l pre ⟨o, ho⟩ W hI hlt
    have hn2 : 1 ≤ n - 1 - 1 := by omega
    cases o with
    | none =>
      simp only [encY]
      gi_wp2
      exact ⟨.refl _, Below.refl _ _, by obtain ⟨g1, g2, g3, g4⟩ := hI; exact ⟨g1, g2, g3, by rw [flatO_snoc]; exact g4⟩⟩
    | some s =>
      have hs5 := ho s rfl
      simp only [encY]
      have hI' := hI
      obtain ⟨g1, g2, g3, g4⟩ := hI'
      rcases g4 with ⟨hf, g4⟩ | ⟨l', b', hf, g4, g5⟩
      · have HW := Lib.hid (WriteString_k (w.heap.size + 2) W.heap.size [] s (W.alloc (.cells #[.pointer none, .slice none 0 0] 241)) (isB_fresh g2 (heap_alloc_new W _)) (by simp; omega) (by rw [size_alloc]; omega))
        have c3 : W.cell? ⟨w.heap.size + 1, 0, none⟩ = some .nilIface := by rw [Go.Lib.cell_of_heap g4]; rfl
        have HI := Lib.hid hI
        have HF := Lib.hid hf
        clear hI g1 g3 g4 hf
        gi_wp2_with (refine ⟨trivial, ?_⟩; gi_at_call 189; refine (CallsIn.inRound l (callsIn_wide.2 HW.out)).mono ?_; rintro e w1 ⟨rfl, k1, k2, k3⟩; obtain ⟨b3, kk⟩ := AI_first (ho := ho) HI.out HF.out k1 k2 k3; have d3 : w1.cell? ⟨w.heap.size + 1, 0, none⟩ = some .nilIface := (by rw [Go.Lib.cell_of_heap b3]; rfl); have f3 : w1.frozen? ⟨w.heap.size + 1, 0, none⟩ = false := Go.Lib.frozen_of_heap b3 0; have KK := Lib.hid kk; clear kk k1 k2 k3 b3)
        exact KK.out
      · have hl := flatO_len pre l' hf
        have HW := Lib.hid (WriteString_k (w.heap.size + 2) b' (Lib.byteCells l') s W g5 (by rw [Go.Lib.byteCells_length]; omega) g2)
        have c3 : W.cell? ⟨w.heap.size + 1, 0, none⟩ = some (.iface 238 (.pointer (some ⟨b', 0, none⟩))) := by rw [Go.Lib.cell_of_heap g4]; rfl
        have HA := Lib.hid (fun w1 => AI_next (w1 := w1) (ho := ho) g1 g2 g3 hf g4 g5)
        clear hI g1 g3 g4 hf g5
        gi_wp2_with (refine ⟨trivial, ?_⟩; gi_at_call 189; refine (CallsIn.inRound l (callsIn_wide.2 HW.out)).mono ?_; rintro e w1 ⟨rfl, k1, k2, k3⟩)
        exact HA.out w1 k1 k2 k3
  case done =>
    rintro D ys W hD rfl hI hK
    obtain ⟨g1, g2, g3, g4⟩ := hI
    rcases g4 with ⟨hf, _⟩ | ⟨l', b', hf, g4, g5⟩
    · rw [hL] at hf; cases hf
    · obtain rfl : L = l' := by rw [hL] at hf; exact Option.some.inj hf
      have HS := Lib.hid (String_k (w.heap.size + 2) b' L W g5 g2)
      have c3 : W.cell? ⟨w.heap.size + 1, 0, none⟩ = some (.iface 238 (.pointer (some ⟨b', 0, none⟩))) := by rw [Go.Lib.cell_of_heap g4]; rfl
      have hb2 : w.heap.size + 2 ≤ b' := by
        rcases g5 with g | g
        · exact g.1
        · exact g.1
      have HG := Lib.hid (And.intro g1 (And.intro g3 (And.intro g4 hK)))
      obtain ⟨cs, hcs⟩ : ∃ cs, W.heap[b']? = some (.cells cs 241 (0, 0)) := by
        rcases g5 with g | g
        · obtain ⟨_, v, hb, _⟩ := g; exact ⟨_, hb⟩
        · obtain ⟨_, v, hb, _⟩ := g; exact ⟨_, hb⟩
      have HDb : Hid (D ≠ b') := Lib.hid (fun e => by subst e; rw [hK] at hcs; cases hcs)
      clear g1 g3 g4 g5 hK hcs
      gi_wp2_with (refine ⟨trivial, fun _ => by omega, ?_⟩; gi_at_call 191; refine (callsIn_wide.2 HS.out).mono ?_; rintro e w1 ⟨rfl, k1, k2⟩; have b3 := (k1.block (w.heap.size + 1) (by omega)).trans HG.out.2.2.1; have b2 := (k1.block w.heap.size (by omega)).trans HG.out.2.1; have hD1 : w1.heap[D]? = some (.deferred (some [])) := k2 D _ HG.out.2.2.2 (fun e => HDb.out (Option.some.inj e)) (by intro c fz e; cases e); have d3 : w1.cell? ⟨w.heap.size + 1, 0, none⟩ = some (.iface 238 (.pointer (some ⟨b', 0, none⟩))) := (by rw [Go.Lib.cell_of_heap b3]; rfl); have f3 : w1.frozen? ⟨w.heap.size + 1, 0, none⟩ = false := Go.Lib.frozen_of_heap b3 0; have d2 : w1.cell? ⟨w.heap.size, 0, none⟩ = some .nilIface := (by rw [Go.Lib.cell_of_heap b2]; rfl); have f2 : w1.frozen? ⟨w.heap.size, 0, none⟩ = false := Go.Lib.frozen_of_heap b2 0; have HK1 := Lib.hid k1; clear k1 k2 b3 b2)
      have hKf := (KeepsOthers.setCell (w1.setCell ⟨w.heap.size + 1, 0, none⟩ (.iface 9 (.string (bytesOf L)))) ⟨w.heap.size, 0, none⟩ (.iface 9 (.string (bytesOf L)))).same D _ ((KeepsOthers.setCell w1 ⟨w.heap.size + 1, 0, none⟩ (.iface 9 (.string (bytesOf L)))).same D _ hD1 rfl) rfl
      refine ⟨by simp, .inl ⟨_, _, rfl, run_takeDeferred hKf, ?_⟩⟩
      have hcl : (((w1.setCell ⟨w.heap.size + 1, 0, none⟩ (.iface 9 (.string (bytesOf L)))).setCell ⟨w.heap.size, 0, none⟩ (.iface 9 (.string (bytesOf L)))).putObj D (.deferred none)).cell? ⟨w.heap.size, 0, none⟩ = some (.iface 9 (.string (bytesOf L))) := by
        rw [World.cell?_of_block (w := (w1.setCell ⟨w.heap.size + 1, 0, none⟩ (.iface 9 (.string (bytesOf L)))).setCell ⟨w.heap.size, 0, none⟩ (.iface 9 (.string (bytesOf L)))) (World.putObj_heap_other (by show w.heap.size ≠ D; omega))]
        refine World.cell?_setCell_same' _ _ _ ?_
        rw [World.cell?_setCell_other _ _ _ _ (by intro e; simp only [Addr.mk.injEq, true_and, and_true] at e; omega), d2]
        rfl
      refine ⟨.iface 9 (.string (bytesOf L)), by simp [results, Tryz.results143, go_sem, hcl], rfl, ?_⟩
      have hb1 : Below w.heap.size w w1 := HG.out.1.trans (HK1.out.mono (by omega))
      exact ((hb1.setCell (p := ⟨w.heap.size + 1, 0, none⟩) (by show w.heap.size ≤ w.heap.size + 1; omega) _).setCell (p := ⟨w.heap.size, 0, none⟩) (Nat.le_refl _) _).trans (belowK_b (w := w) (Nat.le_refl _) _ D _ _ (by omega) hKf rfl rfl)
  case stop =>
    rintro D c pre W _ _ h _
    exact h.elim
end Go.Gj

/-
  funcJoin, at an array of what join takes.
-/
namespace Go.Gj
set_option linter.unusedSimpArgs false
set_option linter.unusedVariables false
set_option linter.unnecessarySimpa false
open Go Go.RowKit Go.Proofs Go.Shelf

/-- What the law puts together of the first k. -/
def wantB (t : ByteArray) (p : List J) : Nat → ByteArray
  | 0 => ⟨#[]⟩
  | k + 1 => (wantB t p k ++ (if k = 0 then ⟨#[]⟩ else t)) ++ ((jTxt (p[k]?.getD .null)).getD ⟨#[]⟩)

theorem bytesOf_app (l : List UInt8) (s : ByteArray) : bytesOf (l ++ s.data.toList) = bytesOf l ++ s := by
  have e : bytesOf s.data.toList = s := by unfold bytesOf; rfl
  rw [← ba_app, e]

theorem flatO_ylist (t : ByteArray) (ht : t.size ≤ 100) (p : List J) (hp : ∀ x ∈ p, joinable x) : ∀ k, k ≤ p.length → (k = 0 → flatO (ylist t ht p hp k) = none) ∧ (0 < k → ∃ l, flatO (ylist t ht p hp k) = some l ∧ bytesOf l = wantB t p k)
  | 0, _ => ⟨fun _ => rfl, fun h => absurd h (by omega)⟩
  | k + 1, hk => by
    refine ⟨fun h => absurd h (by omega), fun _ => ?_⟩
    have ih := flatO_ylist t ht p hp k (by omega)
    have hkl : k < p.length := hk
    -- what stood ahead, with the sign between
    have h1 : ∃ l, flatO (ylist t ht p hp k ++ [sepY t ht k]) = some l ∧ bytesOf l = wantB t p k ++ (if k = 0 then ⟨#[]⟩ else t) := by
      rw [flatO_snoc]
      rcases Nat.eq_zero_or_pos k with rfl | h0
      · rw [ih.1 rfl]
        exact ⟨[], rfl, by simp [wantB, bytesOf]; rfl⟩
      · obtain ⟨l, hl, hb⟩ := ih.2 h0
        rw [hl]
        refine ⟨l ++ t.data.toList, ?_, ?_⟩
        · unfold sepY; rw [if_neg (by omega)]; rfl
        · rw [bytesOf_app, hb, if_neg (by omega)]
    obtain ⟨l, hl, hb⟩ := h1
    have e : ylist t ht p hp (k + 1) = (ylist t ht p hp k ++ [sepY t ht k]) ++ [valY p hp k] := rfl
    rw [e, flatO_snoc, hl]
    have hv : (valY p hp k).1 = jTxt p[k] := by unfold valY; rw [dif_pos hkl]
    have hg : p[k]?.getD .null = p[k] := by simp [hkl]
    simp only [stepY, wantB, hv, hg]
    cases hj : jTxt p[k] with
    | none => exact ⟨l, rfl, by rw [hb]; exact (ByteArray.append_empty).symm⟩
    | some s => exact ⟨_, rfl, by simp only [Option.getD_some]; rw [bytesOf_app, hb]⟩

theorem acells_jAny {w : World} {S : Nat → Prop} {b : Nat} : ∀ (p : List J) (o : Nat), ACells w S b p o → (∀ x ∈ p, joinable x) → ∀ j (hj : j < p.length), w.cell? ⟨b, o + j, none⟩ = some (jAny p[j])
  | [], o, _, _, j, hj => by cases hj
  | x :: xs, o, h, hp, j, hj => by
    obtain ⟨⟨c, hc, hr⟩, hrest⟩ := h
    cases j with
    | zero =>
      have hx := hp x (by simp)
      simp only [Nat.add_zero, List.getElem_cons_zero]
      rw [hc]
      cases x with
      | null => rw [show c = .nilIface from hr]; rfl
      | bool y => rw [show c = .iface 4 (.bool y) from hr]; rfl
      | num n =>
        rcases hr with ⟨_, _, _, e⟩ | ⟨e, _⟩
        · rw [e]; rfl
        · have := hx.1; omega
      | str s => rw [hr.1]; rfl
      | arr l => exact hx.elim
      | obj ks vs => exact hx.elim
    | succ j =>
      have := acells_jAny xs (o + 1) hrest (fun y hy => hp y (by simp [hy])) j (by simpa using hj)
      rw [show o + (j + 1) = o + 1 + j by omega]
      simpa using this

set_option maxHeartbeats 1000000 in
set_option maxRecDepth 100000 in
theorem values_ok (a : Option Addr) (n c : Nat) (w : World) : Calls Tryz.prog 142 #[.iface 80 (.slice a n c)] w fun e w' => e = .returned (.tuple #[.slice a n c, .bool true]) ∧ w' = w := by
  go_enter Tryz.func142, Tryz.ntmps142
  go_wp2_with fail
  go_ret2
  exact ⟨rfl, rfl⟩

set_option maxHeartbeats 2000000 in
set_option maxRecDepth 100000 in
theorem funcJoin_ok (t : ByteArray) (ht : t.size ≤ 100) (p : List J) (hp : ∀ x ∈ p, joinable x) (hlen : p.length ≤ 100) (w : World) (gv gt : Value) (hgv : ARep w (allB w) (.arr p) gv) (hgt : ARep w (allB w) (.str t) gt) :
    Calls Tryz.prog 92 #[gv, gt] w fun e w' => e = .returned (.iface 9 (.string (wantB t p p.length))) ∧ Below w.heap.size w w' := by
  obtain ⟨rfl, _⟩ := hgt
  obtain ⟨b, o, c, rfl, _, hSb, hcs⟩ := hgv
  have hca := acells_jAny p o hcs hp
  have HV := Lib.hid (fun w' => values_ok (some ⟨b, o, none⟩) p.length c w')
  have hB := below2 w (.cells #[.iface 9 (.string t)] 20) (.cells #[.slice (some ⟨b, o, none⟩) p.length c] 80)
  have e1 : (w.alloc (.cells #[.iface 9 (.string t)] 20)).heap.size = w.heap.size + 1 := size_alloc _ _
  have e2 : ((w.alloc (.cells #[.iface 9 (.string t)] 20)).alloc (.cells #[.slice (some ⟨b, o, none⟩) p.length c] 80)).heap.size = w.heap.size + 2 := by rw [size_alloc, e1]
  have hx2 := Go.Lib.alloc_old (w.alloc (.cells #[.iface 9 (.string t)] 20)) (.cells #[.slice (some ⟨b, o, none⟩) p.length c] 80) w.heap.size (by omega)
  rw [heap_alloc_new w] at hx2
  have hx3 := heap_alloc_new (w.alloc (.cells #[.iface 9 (.string t)] 20)) (.cells #[.slice (some ⟨b, o, none⟩) p.length c] 80)
  rw [e1] at hx3
  have c3 : ((w.alloc (.cells #[.iface 9 (.string t)] 20)).alloc (.cells #[.slice (some ⟨b, o, none⟩) p.length c] 80)).cell? ⟨w.heap.size + 1, 0, none⟩ = some (.slice (some ⟨b, o, none⟩) p.length c) := by rw [Go.Lib.cell_of_heap hx3]; rfl
  have c2 : ((w.alloc (.cells #[.iface 9 (.string t)] 20)).alloc (.cells #[.slice (some ⟨b, o, none⟩) p.length c] 80)).cell? ⟨w.heap.size, 0, none⟩ = some (.iface 9 (.string t)) := by rw [Go.Lib.cell_of_heap hx2]; rfl
  have hcb : ∀ j (hj : j < p.length), ((w.alloc (.cells #[.iface 9 (.string t)] 20)).alloc (.cells #[.slice (some ⟨b, o, none⟩) p.length c] 80)).cell? ⟨b, o + j, none⟩ = some (jAny p[j]) := fun j hj => (hB.cell (p := ⟨b, o + j, none⟩) hSb).trans (hca j hj)
  have hbl : b < w.heap.size := hSb
  rcases Nat.eq_zero_or_pos p.length with h0 | h0
  · have hp0 : p = [] := List.length_eq_zero_iff.1 h0
    subst hp0
    have HB := Lib.hid hB
    clear hca hcs hB e1 e2 hx2 hx3 hcb c2
    go_enter Tryz.func92, Tryz.ntmps92
    go_wp2_with (go_at_call 142; refine (HV.out _).mono ?_; rintro e w' ⟨rfl, rfl⟩)
    exact bodyPost_ret (v := .iface 9 (.string (wantB t [] 0))) (by simp [results, Tryz.results92, go_sem, wantB]) rfl ⟨rfl, HB.out⟩
  · obtain ⟨L, hL, hLb⟩ := (flatO_ylist t ht p hp p.length (Nat.le_refl _)).2 h0
    have HA := Lib.hid (callsIn_wide.1 (add_in 5 (by decide) (w.heap.size + 1) w.heap.size b o c t ht p hp hlen L hL _ (by rw [e2]; omega) (by rw [e2]; omega) (by rw [e2]; omega) c3 c2 hcb))
    have HB := Lib.hid hB
    have hne : ((p.length : Int) == 0) = false := beq_eq_false_iff_ne.2 (by omega)
    have HLB := Lib.hid hLb
    clear hca hcs hB e1 e2 hx2 hx3 hcb c2 hL hLb
    go_enter Tryz.func92, Tryz.ntmps92
    go_wp2_with (first
      | (go_at_call 142; refine (HV.out _).mono ?_; rintro e w' ⟨rfl, rfl⟩)
      | (go_at_call 143; refine HA.out.mono ?_; rintro e w' ⟨rfl, hx⟩))
    exact bodyPost_ret (v := .iface 9 (.string (wantB t p p.length))) (by simp [results, Tryz.results92, go_sem, ← HLB.out]) rfl ⟨rfl, HB.out.trans (hx.mono HB.out.size)⟩
end Go.Gj
