/-
  lightstrconv.FormatInt and AppendInt at base 10; the encoder, at truth values and integers; jsonMarshal.
-/
import Derived.Test.YtnlndpgbhmkanaaGreatDoorWJ3
import Derived.Test.YtnlndpgbhmkanaaGreatDoorRegT
import Derived.Laws.CopyRow
namespace Go.Gj
set_option linter.unusedSimpArgs false
set_option linter.unusedVariables false
set_option linter.unnecessarySimpa false
open Go Go.RowKit Go.Proofs

theorem wrap_neg2 (m : Nat) (h0 : 0 < m) (h : m < 4611686018427387904) : IntKind.u64.wrap (-IntKind.u64.wrap (-(m : Int))) = m := by
  simp only [IntKind.wrap, IntKind.signed, IntKind.bits]
  simp
  omega

set_option maxHeartbeats 1000000 in
set_option maxRecDepth 100000 in
theorem FormatInt_ok (n : Int) (h1 : -2305843009213693952 ≤ n) (h2 : n ≤ 2305843009213693952) (w : World) :
    Calls Tryz.prog 300 #[.int .i64 n, .int .i64 10] w fun e w' => e = .returned (.string (itoaB n)) ∧ Below w.heap.size w w' := by
  by_cases hn : n < 0
  · obtain ⟨m, rfl⟩ : ∃ m : Nat, n = -(m : Int) := ⟨n.natAbs, by omega⟩
    have HC := Lib.hid (FormatUint_ok m (by omega) w)
    have hz : ¬ (9223372036854775807 < (⟨#[45]⟩ : ByteArray).size + (decB m).size) := by have := decB_size (n := m) (by omega); show ¬ (9223372036854775807 < 1 + _); omega
    have hi : itoaB (-(m : Int)) = ⟨#[45]⟩ ++ decB m := itoaB_neg m (by omega)
    have hd : decide (-(m : Int) < 0) = true := by simp; omega
    go_enter Tryz.func300, Tryz.ntmps300
    have hw : IntKind.u64.wrap (-IntKind.u64.wrap (-(m : Int))) = m := wrap_neg2 m (by omega) (by omega)
    go_wp2_with (go_at_call 319; refine HC.out.mono ?_; rintro e w' ⟨rfl, hx⟩)
    exact bodyPost_ret (v := .string (itoaB (-(m : Int)))) (by simp [results, Tryz.results300, go_sem, hi]) rfl ⟨rfl, hx⟩
  · obtain ⟨m, rfl⟩ : ∃ m : Nat, n = (m : Int) := ⟨n.toNat, by omega⟩
    have HC := Lib.hid (FormatUint_ok m (by omega) w)
    have hd : decide ((m : Int) < 0) = false := by simp
    go_enter Tryz.func300, Tryz.ntmps300
    go_wp2_with (go_at_call 319; refine HC.out.mono ?_; rintro e w' ⟨rfl, hx⟩)
    exact bodyPost_ret (v := .string (itoaB m)) (by simp [results, Tryz.results300, go_sem, itoaB_nonneg]) rfl ⟨rfl, hx⟩

/-- A text's bytes stored into a row of whatever block. -/
theorem store_str (w : World) (g o : Nat) (bt : TypeId) (cur : Array Value) (hg : w.heap[g]? = some (.cells cur bt (0, 0))) (s : ByteArray) (hfit : o + s.size ≤ cur.size) :
    (storeCells ⟨g, o, none⟩ (List.take s.size (List.map (fun b => Value.int .u8 (b.toNat : Int)) s.data.toList))).run Tryz.prog w = .ok () (w.setRow g (cur.toList.take o ++ Lib.strCells s ++ cur.toList.drop (o + s.size)).toArray) := by
  have e : List.take s.size (List.map (fun b => Value.int .u8 (b.toNat : Int)) s.data.toList) = Lib.strCells s := by
    rw [List.take_of_length_le (by simp)]
    rfl
  rw [e]
  have hst := run_storeCells_at Tryz.prog g o bt (Lib.strCells s) 0 cur w hg (by simpa [Lib.strCells_length] using hfit) (Lib.strCells_oneCell s)
  simpa only [Nat.add_zero, Lib.strCells_length] using hst

set_option maxHeartbeats 1000000 in
set_option maxRecDepth 100000 in
theorem AppendInt_ok (n : Int) (h1 : -2305843009213693952 ≤ n) (h2 : n ≤ 2305843009213693952) (w : World) (g : Nat) (cur : Array Value) (hg : w.heap[g]? = some (.cells cur 250 (0, 0))) (hc : cur.size = 65) (hsz : (itoaB n).size ≤ 21) :
    Calls Tryz.prog 248 #[.slice (some ⟨g, 1, none⟩) 0 64, .int .i64 n, .int .i64 10] w fun e w' => ∃ w1, e = .returned (.slice (some ⟨g, 1, none⟩) (itoaB n).size 64) ∧ Below w.heap.size w w1 ∧ w' = w1.setRow g (cur.toList.take 1 ++ Lib.strCells (itoaB n) ++ cur.toList.drop (1 + (itoaB n).size)).toArray := by
  obtain ⟨i0, hi, hz0, hz1, hz2⟩ := info_parts infoByte
  have HC := Lib.hid (FormatInt_ok n h1 h2 w)
  have hlt : g < w.heap.size := by
    rcases Nat.lt_or_ge g w.heap.size with h' | h'
    · exact h'
    · simp [Array.getElem?_eq_none h'] at hg
  have HG := Lib.hid hg
  clear hg
  go_enter Tryz.func248, Tryz.ntmps248
  go_wp2_with (go_at_call 300; refine HC.out.mono ?_; rintro e w1 ⟨rfl, hx⟩; have happ := store_str w1 g 1 250 cur ((hx.block g hlt).trans HG.out) (itoaB n) (by omega))
  exact bodyPost_ret (v := .slice (some ⟨g, 1, none⟩) (itoaB n).size 64) (by simp [results, Tryz.results248, go_sem]) rfl ⟨w1, rfl, hx, by rw [List.append_assoc]⟩

set_option maxRecDepth 100000 in
theorem methWS (b : Nat) (w : World) : (Go.method 575 238 (.pointer (some ⟨b, 0, none⟩)) "WriteString").run Tryz.prog w = .ok (189, .pointer (some ⟨b, 0, none⟩)) w := by kernel_rfl
set_option maxRecDepth 100000 in
theorem methW (b : Nat) (w : World) : (Go.method 575 238 (.pointer (some ⟨b, 0, none⟩)) "Write").run Tryz.prog w = .ok (445, .pointer (some ⟨b, 0, none⟩)) w := by kernel_rfl

def boolB (y : Bool) : ByteArray := if y then ⟨#[116, 114, 117, 101]⟩ else ⟨#[102, 97, 108, 115, 101]⟩

set_option maxHeartbeats 2000000 in
set_option maxRecDepth 100000 in
theorem encode_bool (y : Bool) (B b E : Nat) (w : World) (cur : Array Value) (hB : IsB B b [] w) (hBw : B ≤ w.heap.size) (hE : w.heap[E]? = some (.cells cur 250 (0, 0))) (h0 : cur[0]? = some (.iface 238 (.pointer (some ⟨b, 0, none⟩)))) :
    Calls Tryz.prog 193 #[.pointer (some ⟨E, 0, none⟩), .iface 4 (.bool y)] w fun e w' => e = .returned (.tuple #[]) ∧ BAt B b (Lib.strCells (boolB y)) w' ∧ Below B w w' := by
  have c0 : w.cell? ⟨E, 0, none⟩ = some (.iface 238 (.pointer (some ⟨b, 0, none⟩))) := by rw [Lib.cell_of_heap hE]; exact h0
  have HC := Lib.hid (fun s (hs : s.size ≤ 140737488355328) => WriteString_ok B b [] s w hB (by simpa using hs) hBw)
  clear hB hE
  have hm := methWS b w
  cases y
  · go_enter Tryz.func193, Tryz.ntmps193
    go_wp2_with (go_at_call 189; refine (HC.out _ (by decide)).mono ?_; rintro e w1 ⟨rfl, h1, h2⟩)
    go_end0
    exact ⟨rfl, h1, h2⟩
  · go_enter Tryz.func193, Tryz.ntmps193
    go_wp2_with (go_at_call 189; refine (HC.out _ (by decide)).mono ?_; rintro e w1 ⟨rfl, h1, h2⟩)
    go_end0
    exact ⟨rfl, h1, h2⟩

theorem isB_fresh {B b : Nat} {w : World} (hB : B ≤ b) (h : w.heap[b]? = some (.cells #[.pointer none, .slice none 0 0] 241 (0, 0))) : IsB B b [] w :=
  .inl ⟨hB, _, h, World.ownsRow_nil _ _ _ _, by simp [Value.ownBlock]⟩

theorem itoa_size (n : Int) : (itoaB n).size = (Lib.itoa n).length := rfl
theorem itoa_cells (n : Int) : Lib.strCells (itoaB n) = Lib.byteCells (Lib.itoa n) := rfl
theorem byteCells_get (l : List UInt8) (j : Nat) (h : j < l.length) : (Lib.byteCells l)[j]? = some (.int .u8 (l[j].toNat : Int)) := by simp [Lib.byteCells, List.getElem?_eq_getElem h]

set_option maxHeartbeats 2000000 in
set_option maxRecDepth 100000 in
theorem encode_int (n : Int) (hn1 : -2305843009213693952 ≤ n) (hn2 : n ≤ 2305843009213693952) (B b E : Nat) (w : World) (cur : Array Value) (hb : w.heap[b]? = some (.cells #[.pointer none, .slice none 0 0] 241 (0, 0))) (hBw : B ≤ w.heap.size) (hE : w.heap[E]? = some (.cells cur 250 (0, 0))) (h0 : cur[0]? = some (.iface 238 (.pointer (some ⟨b, 0, none⟩)))) (hc : cur.size = 65) (hEb : E ≠ b) (hBE : B ≤ E) (hBb : B ≤ b) :
    Calls Tryz.prog 193 #[.pointer (some ⟨E, 0, none⟩), .iface 3 (.int .i64 n)] w fun e w' => e = .returned (.tuple #[]) ∧ BAt B b (Lib.strCells (itoaB n)) w' ∧ Below B w w' := by
  have hl21 : (Lib.itoa n).length ≤ 21 := Lib.itoa_length_le n (by omega) (by omega)
  have hE' : w.drew.heap[E]? = some (.cells cur 250 (0, 0)) := hE
  have hA := AppendInt_ok n hn1 hn2 w.drew E cur hE' hc (by rw [itoa_size]; exact hl21)
  rw [itoa_size, itoa_cells] at hA
  have c0 : w.drew.cell? ⟨E, 0, none⟩ = some (.iface 238 (.pointer (some ⟨b, 0, none⟩))) := by rw [Lib.cell_of_heap hE']; exact h0
  have hElt : E < w.drew.heap.size := World.block_lt_of_cell? _ _ c0
  have hblt : b < w.heap.size := by
    rcases Nat.lt_or_ge b w.heap.size with h' | h'
    · exact h'
    · simp [Array.getElem?_eq_none h'] at hb
  have hm := methW b
  have hsl : ∀ w, (Instr.sliceAt 248 (.pointer (some ⟨E, 1, none⟩)) none (some (.int .i64 0)) none).run Tryz.prog w = .ok (.slice (some ⟨E, 1, none⟩) 0 64) w := fun w => by kernel_rfl
  -- what AppendInt leaves
  obtain ⟨NC, hNC⟩ : ∃ NC, (cur.toList.take 1 ++ Lib.byteCells (Lib.itoa n) ++ cur.toList.drop (1 + (Lib.itoa n).length)).toArray = NC := ⟨_, rfl⟩
  rw [hNC] at hA
  have HA := Lib.hid hA
  have hl1 : (cur.toList.take 1).length = 1 := by simp; omega
  have hN0 : NC[0]? = some (.iface 238 (.pointer (some ⟨b, 0, none⟩))) := by
    rw [← hNC, List.getElem?_toArray, List.append_assoc, List.getElem?_append_left (by omega), List.getElem?_take_of_lt (by omega), Array.getElem?_toList]
    exact h0
  have hNj : ∀ j (hj : j < (Lib.itoa n).length), NC[1 + j]? = some (.int .u8 ((Lib.itoa n)[j].toNat : Int)) := fun j hj => by
    rw [← hNC, List.getElem?_toArray, List.append_assoc, List.getElem?_append_right (by omega), List.getElem?_append_left (by rw [Lib.byteCells_length]; omega), hl1, Nat.add_sub_cancel_left]
    exact byteCells_get _ j hj
  clear hNC
  have hF : ∀ w1, Below w.drew.heap.size w.drew w1 → (w1.setRow E NC).cell? ⟨E, 0, none⟩ = some (.iface 238 (.pointer (some ⟨b, 0, none⟩))) ∧ IsB B b [] (w1.setRow E NC) ∧ Below B w (w1.setRow E NC) ∧ ∀ j (hj : j < (Lib.itoa n).length), (w1.setRow E NC).cell? ⟨E, 1 + j, none⟩ = some (.int .u8 ((Lib.itoa n)[j].toNat : Int)) := fun w1 hx => by
    have e1 : (w1.setRow E NC).heap[E]? = some (.cells NC 250 (0, 0)) := setRow_heap w1 E cur NC 250 (0, 0) ((hx.block E hElt).trans hE')
    have e2 : (w1.setRow E NC).heap[b]? = some (.cells #[.pointer none, .slice none 0 0] 241 (0, 0)) := (setRow_other w1 E b NC (Ne.symm hEb)).trans ((hx.block b hblt).trans hb)
    have e3 : Below B w w1 := (Below.refl B w).drew.trans (hx.mono hBw)
    exact ⟨by rw [Lib.cell_of_heap e1]; exact hN0, isB_fresh hBb e2, e3.trans ⟨rfl, rfl, rfl, by simp [World.setRow], fun k hk => setRow_other w1 E k NC (by omega)⟩, fun j hj => by rw [Lib.cell_of_heap e1]; exact hNj j hj⟩
  have HF := Lib.hid hF
  clear hF hE hE' hb hA hNj hN0 hl1
  go_enter Tryz.func193, Tryz.ntmps193
  go_upto_region 13 with fail
  have HS := Lib.hid c0
  clear c0
  refine wp_region_S (fun i => decide (12 ≤ i)) (fun w1 => w1.cell? ⟨E, 0, none⟩ = some (.iface 238 (.pointer (some ⟨b, 0, none⟩)))) (fun _ => True) (by kernel_rfl) ?_
  refine wpAnyS_takeU 0 ⟨some 39, .move (.tmp 0), _, _, _, none⟩ (v := ?_) rfl (by kernel_rfl) (by kernel_rfl) (by kernel_rfl) (by kernel_rfl) (by kernel_rfl) (fun _ _ _ h => h) (Or.inl ⟨by rfl, ?_⟩) ⟨trivial, HS.out⟩ ?_
  rotate_left
  · (intro x hx; clear hx; go_simp; try with_reducible rfl)
  try simp only [Act.put, List.setIfInBounds_toArray, List.set_cons_zero, List.set_cons_succ]
  refine wpAnyS_takeU 1 ⟨some 40, .nilCheck (.tmp 39), _, _, _, none⟩ (v := ?_) rfl (by kernel_rfl) (by kernel_rfl) (by kernel_rfl) (by kernel_rfl) (by kernel_rfl) (fun _ _ _ h => h) (Or.inl ⟨by rfl, ?_⟩) ⟨trivial, HS.out⟩ ?_
  rotate_left
  · (intro x hx; clear hx; go_simp; try with_reducible rfl)
  try simp only [Act.put, List.setIfInBounds_toArray, List.set_cons_zero, List.set_cons_succ]
  refine wpAnyS_takeU 2 ⟨some 41, .fieldAddr 250 (.tmp 40) 0, _, _, _, none⟩ (v := ?_) rfl (by kernel_rfl) (by kernel_rfl) (by kernel_rfl) (by kernel_rfl) (by kernel_rfl) (fun _ _ _ h => h) (Or.inl ⟨by rfl, ?_⟩) ⟨trivial, HS.out⟩ ?_
  rotate_left
  · (intro x hx; clear hx; go_simp; try with_reducible rfl)
  try simp only [Act.put, List.setIfInBounds_toArray, List.set_cons_zero, List.set_cons_succ]
  refine wpAnyS_takeU 3 ⟨some 42, .load 247 (.tmp 41), _, _, _, none⟩ (v := ?_) rfl (by kernel_rfl) (by kernel_rfl) (by kernel_rfl) (by kernel_rfl) (by kernel_rfl) (fun _ _ _ h => h) (Or.inl ⟨by rfl, ?_⟩) ⟨trivial, HS.out⟩ ?_
  rotate_left
  · (intro x hx; obtain ⟨-, x0⟩ := hx; go_simp; try with_reducible rfl)
  try simp only [Act.put, List.setIfInBounds_toArray, List.set_cons_zero, List.set_cons_succ]
  refine wpAnyS_takeU 4 ⟨some 43, .move (.tmp 0), _, _, _, none⟩ (v := ?_) rfl (by kernel_rfl) (by kernel_rfl) (by kernel_rfl) (by kernel_rfl) (by kernel_rfl) (fun _ _ _ h => h) (Or.inl ⟨by rfl, ?_⟩) ⟨trivial, HS.out⟩ ?_
  rotate_left
  · (intro x hx; clear hx; go_simp; try with_reducible rfl)
  try simp only [Act.put, List.setIfInBounds_toArray, List.set_cons_zero, List.set_cons_succ]
  refine wpAnyS_takeU 5 ⟨some 44, .nilCheck (.tmp 43), _, _, _, none⟩ (v := ?_) rfl (by kernel_rfl) (by kernel_rfl) (by kernel_rfl) (by kernel_rfl) (by kernel_rfl) (fun _ _ _ h => h) (Or.inl ⟨by rfl, ?_⟩) ⟨trivial, HS.out⟩ ?_
  rotate_left
  · (intro x hx; clear hx; go_simp; try with_reducible rfl)
  try simp only [Act.put, List.setIfInBounds_toArray, List.set_cons_zero, List.set_cons_succ]
  refine wpAnyS_takeU 6 ⟨some 45, .fieldAddr 250 (.tmp 44) 1, _, _, _, none⟩ (v := ?_) rfl (by kernel_rfl) (by kernel_rfl) (by kernel_rfl) (by kernel_rfl) (by kernel_rfl) (fun _ _ _ h => h) (Or.inl ⟨by rfl, ?_⟩) ⟨trivial, HS.out⟩ ?_
  rotate_left
  · (intro x hx; clear hx; go_simp; try with_reducible rfl)
  try simp only [Act.put, List.setIfInBounds_toArray, List.set_cons_zero, List.set_cons_succ]
  refine wpAnyS_takeU 7 ⟨some 46, .slice 248 (.tmp 45) none (some (.const (.int .i64 0))) none, _, _, _, none⟩ (v := ?_) rfl (by kernel_rfl) (by kernel_rfl) (by kernel_rfl) (by kernel_rfl) (by kernel_rfl) (fun _ _ _ h => h) (Or.inl ⟨by rfl, ?_⟩) ⟨trivial, HS.out⟩ ?_
  rotate_left
  · (intro x hx; clear hx; go_simp; try with_reducible rfl)
  try simp only [Act.put, List.setIfInBounds_toArray, List.set_cons_zero, List.set_cons_succ]
  refine wpAnyS_takeU 8 ⟨some 47, .move (.tmp 6), _, _, _, none⟩ (v := ?_) rfl (by kernel_rfl) (by kernel_rfl) (by kernel_rfl) (by kernel_rfl) (by kernel_rfl) (fun _ _ _ h => h) (Or.inl ⟨by rfl, ?_⟩) ⟨trivial, HS.out⟩ ?_
  rotate_left
  · (intro x hx; clear hx; go_simp; try with_reducible rfl)
  try simp only [Act.put, List.setIfInBounds_toArray, List.set_cons_zero, List.set_cons_succ]
  refine wpAnyS_takeU 10 ⟨some 49, .nilCheck (.tmp 42), _, _, _, none⟩ (v := ?_) rfl (by kernel_rfl) (by kernel_rfl) (by kernel_rfl) (by kernel_rfl) (by kernel_rfl) (fun _ _ _ h => h) (Or.inl ⟨by rfl, ?_⟩) ⟨trivial, HS.out⟩ ?_
  rotate_left
  · (intro x hx; clear hx; go_simp; try with_reducible rfl)
  try simp only [Act.put, List.setIfInBounds_toArray, List.set_cons_zero, List.set_cons_succ]
  refine wpAnyS_takeU 11 ⟨some 50, .move (.tmp 42), _, _, _, none⟩ (v := ?_) rfl (by kernel_rfl) (by kernel_rfl) (by kernel_rfl) (by kernel_rfl) (by kernel_rfl) (fun _ _ _ h => h) (Or.inl ⟨by rfl, ?_⟩) ⟨trivial, HS.out⟩ ?_
  rotate_left
  · (intro x hx; clear hx; go_simp; try with_reducible rfl)
  try simp only [Act.put, List.setIfInBounds_toArray, List.set_cons_zero, List.set_cons_succ]
  refine wpAnyS_ready [9] (by kernel_rfl) (by simp) ?_
  refine AllReadyS.cons ⟨some 48, .call { callee := .value (.func 248), args := #[.tmp 46, .tmp 47, .const (.int .i64 10)], argTypes := #[239, 2, 3] }, _, _, _, none⟩ rfl (fun K hK => ?_) AllReadyS.nil
  go_simp
  go_at_call 248
  refine HA.out.mono ?_
  rintro e w2 ⟨w1, rfl, hx, rfl⟩
  have HX := Lib.hid (HF.out w1 hx)
  clear hx
  try go_simp
  refine hK _ _ trivial (fun _ _ => HX.out.1) ?_
  clear hK K
  try simp only [Act.put, List.setIfInBounds_toArray, List.set_cons_zero, List.set_cons_succ]
  refine wpAnyS_rest 12 (fun _ => trivial) rfl (by kernel_rfl) (by kernel_rfl) ?_
  simp only [List.drop_succ_cons, List.drop_zero]
  go_wp2_with (go_at_call 445; refine (Write_ok B b [] (Lib.itoa n) _ E 1 64 HX.out.2.1 (by simp; omega) (Nat.le_trans hBw HX.out.2.2.1.size) hEb HX.out.2.2.2).mono ?_; rintro e w3 ⟨⟨v, rfl⟩, h1, h2⟩)
  go_end0
  exact ⟨rfl, h1, HX.out.2.2.1.trans h2⟩
end Go.Gj

/-
  jsonMarshal, at truth values and integers.
-/
namespace Go.Gj
set_option linter.unusedSimpArgs false
set_option linter.unusedVariables false
set_option linter.unnecessarySimpa false
open Go Go.RowKit Go.Proofs

/-- What jsonMarshal writes of a value that is marshalled. -/
def txtOf : Value → Option (List UInt8)
  | .iface 4 (.bool true) => some [116, 114, 117, 101]
  | .iface 4 (.bool false) => some [102, 97, 108, 115, 101]
  | .iface 3 (.int .i64 n) => if -2305843009213693952 ≤ n ∧ n ≤ 2305843009213693952 then some (Lib.itoa n) else none
  | _ => none

theorem encode_ok (v : Value) (l : List UInt8) (hv : txtOf v = some l) (B b E : Nat) (w : World) (cur : Array Value) (hb : w.heap[b]? = some (.cells #[.pointer none, .slice none 0 0] 241 (0, 0))) (hBw : B ≤ w.heap.size) (hE : w.heap[E]? = some (.cells cur 250 (0, 0))) (h0 : cur[0]? = some (.iface 238 (.pointer (some ⟨b, 0, none⟩)))) (hc : cur.size = 65) (hEb : E ≠ b) (hBE : B ≤ E) (hBb : B ≤ b) :
    Calls Tryz.prog 193 #[.pointer (some ⟨E, 0, none⟩), v] w fun e w' => e = .returned (.tuple #[]) ∧ BAt B b (Lib.byteCells l) w' ∧ Below B w w' := by
  unfold txtOf at hv
  split at hv
  · obtain rfl := Option.some.inj hv
    exact encode_bool true B b E w cur (isB_fresh hBb hb) hBw hE h0
  · obtain rfl := Option.some.inj hv
    exact encode_bool false B b E w cur (isB_fresh hBb hb) hBw hE h0
  · split at hv
    · obtain rfl := Option.some.inj hv
      rename_i n hn
      exact encode_int n hn.1 hn.2 B b E w cur hb hBw hE h0 hc hEb hBE hBb
    · cases hv
  · cases hv

set_option maxHeartbeats 2000000 in
set_option maxRecDepth 100000 in
theorem jsonMarshal_ok (v : Value) (l : List UInt8) (hv : txtOf v = some l) (w : World) :
    Calls Tryz.prog 145 #[v] w fun e w' => e = .returned (.string (bytesOf l)) ∧ Below w.heap.size w w' := by
  obtain ⟨t, x, rfl⟩ : ∃ t x, v = .iface t x := by
    unfold txtOf at hv
    split at hv
    · exact ⟨_, _, rfl⟩
    · exact ⟨_, _, rfl⟩
    · exact ⟨_, _, rfl⟩
    · cases hv
  have h1 : (w.alloc (.cells #[.pointer none, .slice none 0 0] 241)).heap.size = w.heap.size + 1 := size_alloc _ _
  have hb1 := Go.Lib.alloc_old (w.alloc (.cells #[.pointer none, .slice none 0 0] 241)) (.cells (Tryz.zeroCells250.setIfInBounds 0 (.iface 238 (.pointer (some ⟨w.heap.size, 0, none⟩)))) 250) w.heap.size (by omega)
  have hb2 : (w.alloc (.cells #[.pointer none, .slice none 0 0] 241)).heap[w.heap.size]? = some (.cells #[.pointer none, .slice none 0 0] 241 (0, 0)) := heap_alloc_new w _
  have hE := heap_alloc_new (w.alloc (.cells #[.pointer none, .slice none 0 0] 241)) (.cells (Tryz.zeroCells250.setIfInBounds 0 (.iface 238 (.pointer (some ⟨w.heap.size, 0, none⟩)))) 250)
  rw [h1] at hE
  have hz : Tryz.zeroCells250.size = 65 := by kernel_rfl
  have h2 : ((w.alloc (.cells #[.pointer none, .slice none 0 0] 241)).alloc (.cells (Tryz.zeroCells250.setIfInBounds 0 (.iface 238 (.pointer (some ⟨w.heap.size, 0, none⟩)))) 250)).heap.size = w.heap.size + 1 + 1 := by rw [size_alloc, h1]
  have HC := Lib.hid (encode_ok (.iface t x) l hv w.heap.size w.heap.size (w.heap.size + 1) _ _ (hb1.trans hb2) (by omega) hE (by rw [Array.getElem?_setIfInBounds_self_of_lt (by omega)]) (by simp [hz]) (by omega) (by omega) (Nat.le_refl _))
  have HB2 := Lib.hid (below2 w (.cells #[.pointer none, .slice none 0 0] 241) (.cells (Tryz.zeroCells250.setIfInBounds 0 (.iface 238 (.pointer (some ⟨w.heap.size, 0, none⟩)))) 250))
  clear hv h1 hb1 hb2 hE hz h2
  go_enter Tryz.func145, Tryz.ntmps145
  go_wp2_with (first
    | (go_at_call 193; refine HC.out.mono ?_; rintro e w1 ⟨rfl, h1, h2⟩; have HS := Lib.hid (String_ok w.heap.size w.heap.size l w1 (.inr h1) (Nat.le_trans HB2.out.size h2.size)); have HB3 := Lib.hid (HB2.out.trans h2); clear h1 h2)
    | (go_at_call 191; refine HS.out.mono ?_; rintro e w2 ⟨rfl, h3⟩))
  exact bodyPost_ret (v := .string (bytesOf l)) (by simp [results, Tryz.results145, go_sem]) rfl ⟨rfl, HB3.out.trans h3⟩
end Go.Gj
