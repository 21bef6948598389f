/-
  gojq.sortItems: the row of items as it is sorted; the closures 'less' and 'swap'.
-/
import Derived.Test.YtnlndpgbhmkanaaGreatDoorWStH
import Derived.Test.YtnlndpgbhmkanaaGreatDoorWCp10
import Derived.Test.YtnlndpgbhmkanaaGreatDoorPlX
import Derived.Test.YtnlndpgbhmkanaaGreatDoorAnsL
namespace Go.Gj
set_option linter.unusedSimpArgs false
set_option linter.unusedVariables false
set_option linter.unnecessarySimpa false
open Go Go.RowKit Go.Proofs Go.Lib Go.Extern

/-- The row: pointers to the items, in this order. -/
def RowI (w : World) (R n : Nat) (d : Nat → Nat) : Prop := ∃ cs : Array Value, w.heap[R]? = some (.cells cs 136) ∧ cs.size = n ∧ ∀ k, k < n → cs[k]? = some (.pointer (some ⟨R + 2 + d k, 0, none⟩))

theorem RowI.lt {w : World} {R n : Nat} {d : Nat → Nat} (h : RowI w R n d) : R < w.heap.size := by
  obtain ⟨cs, h, _⟩ := h; exact (Array.getElem?_eq_some_iff.1 h).1
theorem RowI.cell {w : World} {R n : Nat} {d : Nat → Nat} (h : RowI w R n d) (k : Nat) (hk : k < n) : w.cell? ⟨R, k, none⟩ = some (.pointer (some ⟨R + 2 + d k, 0, none⟩)) := by
  obtain ⟨cs, h, _, hc⟩ := h
  simp [World.cell?, h, hc k hk]
theorem RowI.frozen {w : World} {R n : Nat} {d : Nat → Nat} (h : RowI w R n d) (k : Nat) : w.frozen? ⟨R, k, none⟩ = false := by
  obtain ⟨cs, h, _⟩ := h
  simp [World.frozen?, h]
theorem RowI.same {w w' : World} {R n : Nat} {d : Nat → Nat} (h : RowI w R n d) (hb : w'.heap[R]? = w.heap[R]?) : RowI w' R n d := by
  obtain ⟨cs, h, h2, h3⟩ := h
  exact ⟨cs, hb.trans h, h2, h3⟩

theorem RowI.swap {w : World} {R n : Nat} {d : Nat → Nat} (h : RowI w R n d) {i j : Nat} (hi : i < n) (hj : j < n) (hij : i ≠ j) :
    RowI ((w.setCell ⟨R, i, none⟩ (.pointer (some ⟨R + 2 + d j, 0, none⟩))).setCell ⟨R, j, none⟩ (.pointer (some ⟨R + 2 + d i, 0, none⟩))) R n (swp d i j) := by
  obtain ⟨cs, h, h2, h3⟩ := h
  refine ⟨(cs.setIfInBounds i (.pointer (some ⟨R + 2 + d j, 0, none⟩))).setIfInBounds j (.pointer (some ⟨R + 2 + d i, 0, none⟩)), by simp [World.setCell, Array.getElem?_modify, h], by simpa using h2, fun k hk => ?_⟩
  unfold swp
  by_cases h4 : k = i
  · subst h4
    rw [if_pos rfl, Array.getElem?_setIfInBounds_ne (by omega), Array.getElem?_setIfInBounds_self_of_lt (by omega)]
  · rw [if_neg h4]
    by_cases h5 : k = j
    · subst h5
      rw [if_pos rfl, Array.getElem?_setIfInBounds_self_of_lt (by simp; omega)]
    · rw [if_neg h5, Array.getElem?_setIfInBounds_ne (by omega), Array.getElem?_setIfInBounds_ne (by omega)]
      exact h3 k hk

/-- What is known while the row is sorted. -/
def SI (R n : Nat) (W0 : World) (d : Nat → Nat) (w1 : World) : Prop := (∀ k, k < n → d k < n) ∧ Away R (R + 2 + n) W0 w1 ∧ RowI w1 R n d

/-- What the row's world is when the sort begins. -/
structure Items (W0 : World) (R n : Nat) (ks : List J) (gv gk : Nat → Value) (S : Nat → Prop) : Prop where
  len : ks.length = n
  hn : n < 2147483648
  size : R + 2 + n ≤ W0.heap.size
  box : W0.heap[R + 1]? = some (.cells #[.slice (some ⟨R, 0, none⟩) n n] 133)
  item : ∀ i, i < n → W0.heap[R + 2 + i]? = some (.cells #[gv i, gk i] 139)
  low : ∀ b, S b → b < R
  ok : ∀ k ∈ ks, k.ok
  key : ∀ i (hi : i < ks.length), ARep W0 S ks[i] (gk i)

theorem SI.box {W0 w1 : World} {R n : Nat} {ks : List J} {gv gk : Nat → Value} {S : Nat → Prop} {d : Nat → Nat} (E : Items W0 R n ks gv gk S) (h : SI R n W0 d w1) : w1.cell? ⟨R + 1, 0, none⟩ = some (.slice (some ⟨R, 0, none⟩) n n) := by
  have := (h.2.1.block (R + 1) (by omega) (by omega)).trans E.box
  simp [World.cell?, this]
theorem SI.item {W0 w1 : World} {R n : Nat} {ks : List J} {gv gk : Nat → Value} {S : Nat → Prop} {d : Nat → Nat} (E : Items W0 R n ks gv gk S) (h : SI R n W0 d w1) (i : Nat) (hi : i < n) : w1.cell? ⟨R + 2 + i, 0, none⟩ = some (gv i) ∧ w1.cell? ⟨R + 2 + i, 1, none⟩ = some (gk i) := by
  have := (h.2.1.block (R + 2 + i) (by omega) (by omega)).trans (E.item i hi)
  simp [World.cell?, this]
theorem SI.step {W0 w1 w2 : World} {R n : Nat} {d : Nat → Nat} (h : SI R n W0 d w1) (hs : R + 2 + n ≤ W0.heap.size) (hb : Below w1.heap.size w1 w2) : SI R n W0 d w2 :=
  ⟨h.1, h.2.1.trans (away_of (hb.mono (Nat.le_trans hs h.2.1.size)) R), h.2.2.same (hb.block R h.2.2.lt)⟩

set_option maxHeartbeats 1000000 in
set_option maxRecDepth 100000 in
theorem less_ok {W0 : World} {R n : Nat} {ks : List J} {gv gk : Nat → Value} {S : Nat → Prop} (E : Items W0 R n ks gv gk S) (w1 : World) (d : Nat → Nat) (i j : Nat) (h : SI R n W0 d w1) (hi : i < n) (hj : j < n) :
    Calls Tryz.prog 159 (#[.int .i64 i, .int .i64 j] ++ #[.pointer (some ⟨R + 1, 0, none⟩)]) w1 fun e w' => e = .returned (.bool (keyLt ks (d i) (d j))) ∧ SI R n W0 d w' ∧ Away R w1.heap.size w1 w' := by
  have hn := E.hn
  have hdi := h.1 i hi
  have hdj := h.1 j hj
  have hki : d i < ks.length := by rw [E.len]; exact hdi
  have hkj : d j < ks.length := by rw [E.len]; exact hdj
  have hlt : keyLt ks (d i) (d j) = decide (cmpJ ks[d i] ks[d j] < 0) := by
    unfold keyLt
    rw [List.getD_eq_getElem?_getD, List.getD_eq_getElem?_getD, List.getElem?_eq_getElem hki, List.getElem?_eq_getElem hkj]
    rfl
  rw [hlt]
  have CB : Hid (∀ w2, Below w1.heap.size w1 w2 → (w2.cell? ⟨R + 1, 0, none⟩ = some (.slice (some ⟨R, 0, none⟩) n n) ∧ w2.cell? ⟨R, i, none⟩ = some (.pointer (some ⟨R + 2 + d i, 0, none⟩)) ∧ w2.cell? ⟨R, j, none⟩ = some (.pointer (some ⟨R + 2 + d j, 0, none⟩)) ∧ w2.cell? ⟨R + 2 + d i, 1, none⟩ = some (gk (d i)) ∧ w2.cell? ⟨R + 2 + d j, 1, none⟩ = some (gk (d j)))) := Lib.hid fun w2 hb => by
    have g := h.step E.size hb
    exact ⟨g.box E, g.2.2.cell i hi, g.2.2.cell j hj, (g.item E _ hdi).2, (g.item E _ hdj).2⟩
  have HC := Lib.hid (fun w2 (hb : Below w1.heap.size w1 w2) => by
    have g := h.step E.size hb
    have hsm : Same S W0 w2 := fun b hS => g.2.1.block b (by have := E.low b hS; omega) (by have := E.low b hS; omega)
    exact Compare_ok ks[d i] ks[d j] (E.ok _ (List.getElem_mem hki)) (E.ok _ (List.getElem_mem hkj)) w2 S (gk (d i)) (gk (d j)) (fun b hS => by have := E.low b hS; have := g.2.2.lt; omega) ((E.key _ hki).keep hsm (fun _ h => h)) ((E.key _ hkj).keep hsm (fun _ h => h)))
  have HR := Lib.hid (fun w2 (hb : Below w1.heap.size w1 w2) => And.intro (h.step E.size hb) (away_of hb R))
  have HQ0 := Lib.hid (Below.refl w1.heap.size w1).drew
  generalize cmpJ ks[d i] ks[d j] = dd at HC ⊢
  generalize gk (d i) = g1 at CB HC
  generalize gk (d j) = g2 at CB HC
  generalize d i = di at CB
  generalize d j = dj at CB
  clear hlt hki hkj hdi hdj h E
  go_enter Tryz.func159, Tryz.ntmps159
  go_upto_region 1 with fail
  go_cut [5] (fun v wx => v = .bool (decide (dd < 0)) ∧ Below w1.heap.size w1 wx)
  case first =>
    obtain ⟨f1, f2, f3, f4, f5⟩ := CB.out _ HQ0.out
    go_region_held3 (fun w2 => (w2.cell? ⟨R + 1, 0, none⟩ = some (.slice (some ⟨R, 0, none⟩) n n) ∧ w2.cell? ⟨R, i, none⟩ = some (.pointer (some ⟨R + 2 + di, 0, none⟩)) ∧ w2.cell? ⟨R, j, none⟩ = some (.pointer (some ⟨R + 2 + dj, 0, none⟩)) ∧ w2.cell? ⟨R + 2 + di, 1, none⟩ = some g1 ∧ w2.cell? ⟨R + 2 + dj, 1, none⟩ = some g2))
      (first | with_reducible exact CB.out _ HQ0.out | with_reducible exact CB.out _ HQ1.out)
      ((go_at_call 109; (with_reducible refine (HC.out _ HQ0.out).mono ?_); rintro e w2 ⟨rfl, hx⟩; have HQ1 := Lib.hid (HQ0.out.trans (hx.mono HQ0.out.size)); clear hx))
    all_goals (go_wp2_with fail; go_meet; exact ⟨rfl, HQ1.out⟩)
  obtain ⟨rfl, hq⟩ := hcut
  have HQ := Lib.hid hq
  clear hq
  go_wp2_with fail
  exact bodyPost_ret (v := .bool (decide (dd < 0))) (by simp [results, Tryz.results159, go_sem]) rfl ⟨rfl, (HR.out _ HQ.out).1, (HR.out _ HQ.out).2⟩
end Go.Gj

/-
  gojq.sortItems: what the sort asks of its closures.
-/
namespace Go.Gj
set_option linter.unusedSimpArgs false
set_option linter.unusedVariables false
set_option linter.unnecessarySimpa false
open Go Go.RowKit Go.Proofs Go.Lib Go.Extern

theorem swap267 (args : Array Value) (w : World) : (callFunc 267 args).run Tryz.prog w = ((ReflectliteSwapper.swap true args).run Tryz.prog w).andThen fun v w' => .ok (.value v) w' :=
  run_callFunc_extern Tryz.func267 (by kernel_rfl) (by kernel_rfl) (by kernel_rfl) (e := ReflectliteSwapper.swap true) (by kernel_rfl) args w

theorem SI.alloc {W0 w1 : World} {R n : Nat} {d : Nat → Nat} (h : SI R n W0 d w1) (hs : R + 2 + n ≤ W0.heap.size) (o : Obj) : SI R n W0 d (w1.alloc o) := h.step hs (below1 w1 o)

theorem items_env {W0 : World} {R n : Nat} {ks : List J} {gv gk : Nat → Value} {S : Nat → Prop} (E : Items W0 R n ks gv gk S) :
    SEnv R n (keyLt ks) 159 (swapFn (typeHandle Tryz.prog 136) (some ⟨R, 0, none⟩) n n).1 #[.pointer (some ⟨R + 1, 0, none⟩)] (swapFn (typeHandle Tryz.prog 136) (some ⟨R, 0, none⟩) n n).2 (SI R n W0) := by
  refine ⟨enters_of Tryz.func159 (by kernel_rfl) rfl, fun w d i j h hi hj => less_ok E w d i j h hi hj, fun w d i j h hi hj hij => ?_, fun w d o h => h.alloc E.size o, fun w d h => h.step E.size (Below.refl _ _).drew, fun w d h => h.2.2.lt, E.hn⟩
  have h2 : swapFn (typeHandle Tryz.prog 136) (some ⟨R, 0, none⟩) n n = (267, #[.slice (some ⟨R, 0, none⟩) n n, typeHandle Tryz.prog 136]) := by
    unfold swapFn
    rw [if_neg (by omega), if_neg (by omega)]
  obtain ⟨ie, hie, hsz, _, _⟩ := info136
  have hrow := h.2.2
  refine ⟨_, ?_, ⟨fun k hk => ?_, ?_, hrow.swap hi hj hij⟩, ?_⟩
  · rw [h2]
    have := run_swap_one (P := Tryz.prog) true 136 ie hie hsz agg136 R 0 n n i j hi hj (.pointer (some ⟨R + 2 + d i, 0, none⟩)) (.pointer (some ⟨R + 2 + d j, 0, none⟩)) rfl rfl w (by rw [Nat.zero_add]; exact hrow.cell i hi) (by rw [Nat.zero_add]; exact hrow.cell j hj) (by rw [Nat.zero_add]; exact hrow.frozen i) (by rw [Nat.zero_add]; exact hrow.frozen j)
    rw [Nat.zero_add, Nat.zero_add] at this
    simp only
    rw [swap267, show (#[Value.int .i64 (i : Int), Value.int .i64 (j : Int)] ++ #[Value.slice (some ⟨R, 0, none⟩) n n, typeHandle Tryz.prog 136]) = #[.int .i64 i, .int .i64 j, .slice (some ⟨R, 0, none⟩) n n, typeHandle Tryz.prog 136] from rfl, this]
    rfl
  · have := h.1
    unfold swp
    split
    · exact this j hj
    · split
      · exact this i hi
      · exact this k hk
  · refine h.2.1.trans ⟨rfl, rfl, rfl, by simp [World.setCell], fun k hk hx => ?_⟩
    rw [Below.heap_setCell _ _ _ _ hx, Below.heap_setCell _ _ _ _ hx]
  · refine ⟨rfl, rfl, rfl, by simp [World.setCell], fun k hk hx => ?_⟩
    rw [Below.heap_setCell _ _ _ _ hx, Below.heap_setCell _ _ _ _ hx]

/-- The row of items, sorted. -/
theorem sortRow_ok {W0 : World} {R n : Nat} {ks : List J} {gv gk : Nat → Value} {S : Nat → Prop} (E : Items W0 R n ks gv gk S) (h0 : SI R n W0 (fun k => k) W0) :
    Calls Tryz.prog 158 #[.iface 133 (.slice (some ⟨R, 0, none⟩) n n), .func (.func 159) #[] #[.pointer (some ⟨R + 1, 0, none⟩)]] W0 fun e w' => e = .returned (.tuple #[]) ∧ ∃ d, SI R n W0 d w' ∧ Sh 0 n (fun k => k) d ∧ SortedOn (keyLt ks) d 0 n := by
  refine sliceStable_of (some ⟨R, 0, none⟩) n n E.hn (.func 159) #[] #[.pointer (some ⟨R + 1, 0, none⟩)] W0 _ ?_
  have hs := (h0.alloc E.size (.cells #[.slice (some ⟨R, 0, none⟩) n n] 133)).alloc E.size (.cells #[.pointer (some ⟨17, 133, none⟩), .pointer (some ⟨W0.heap.size, 0, none⟩), .int .u64 151] 261)
  refine (stable_ok (items_env E) (keyWk E.ok) _ hs).mono ?_
  rintro e w' ⟨rfl, h1, _⟩
  exact ⟨rfl, h1⟩
#print axioms sortRow_ok
end Go.Gj

/-
  gojq.sortItems: the walk.
-/
namespace Go.Gj
set_option linter.unusedSimpArgs false
set_option linter.unusedVariables false
set_option linter.unnecessarySimpa false
open Go Go.RowKit Go.Proofs Go.Lib Go.Extern

theorem info136z : (Tryz.prog.info? 136).map (fun i => (i.zero, i.size, i.bytes)) = some (some (.pointer none), 1, 8) := by kernel_rfl

theorem run_make133 (w : World) (n : Nat) (hn : n ≤ 10000000000) : (Instr.makeSlice 133 (.int .i64 n) (.int .i64 n)).run Tryz.prog w = .ok (.slice (some ⟨w.heap.size, 0, none⟩) n n) (w.alloc (.cells (madeCells #[.pointer none] n) 136)) := by
  obtain ⟨i0, hi, hz0, hz1, hz2⟩ := info_parts info136z
  have := run_make w 133 136 i0 (.pointer none) Tryz.underlying133 hi hz0 .i64 .i64 (n : Int) (n : Int) (by omega) (Int.le_refl _) (by rw [hz2]; omega) (by omega)
  rw [hz1] at this
  simpa [Value.cells] using this

/-- The row of items, filled up to a place. -/
def RowP (w : World) (R n k : Nat) : Prop := ∃ cs : Array Value, w.heap[R]? = some (.cells cs 136) ∧ cs.size = n ∧ ∀ j, j < k → cs[j]? = some (.pointer (some ⟨R + 2 + j, 0, none⟩))

theorem RowP.new (w : World) (n : Nat) : RowP (w.alloc (.cells (madeCells #[.pointer none] n) 136)) w.heap.size n 0 :=
  ⟨_, heap_alloc_new _ _, by rw [size_madeCells], fun j hj => by omega⟩
theorem RowP.lt {w : World} {R n k : Nat} (h : RowP w R n k) : R < w.heap.size := by
  obtain ⟨cs, h, _⟩ := h; exact (Array.getElem?_eq_some_iff.1 h).1
theorem RowP.cell {w : World} {R n k : Nat} (h : RowP w R n k) (j : Nat) (hj : j < n) : ∃ v, w.cell? ⟨R, j, none⟩ = some v := by
  obtain ⟨cs, h, hs, _⟩ := h
  exact ⟨cs[j]'(by omega), by simp [World.cell?, h]⟩
theorem RowP.frozen {w : World} {R n k : Nat} (h : RowP w R n k) (j : Nat) : w.frozen? ⟨R, j, none⟩ = false := by
  obtain ⟨cs, h, _⟩ := h
  simp [World.frozen?, h]
theorem RowP.same {w w' : World} {R n k : Nat} (h : RowP w R n k) (hb : w'.heap[R]? = w.heap[R]?) : RowP w' R n k := by
  obtain ⟨cs, h, h2, h3⟩ := h
  exact ⟨cs, hb.trans h, h2, h3⟩
theorem RowP.set {w : World} {R n k : Nat} (h : RowP w R n k) (hk : k < n) : RowP (w.setCell ⟨R, k, none⟩ (.pointer (some ⟨R + 2 + k, 0, none⟩))) R n (k + 1) := by
  obtain ⟨cs, h, h2, h3⟩ := h
  refine ⟨cs.setIfInBounds k (.pointer (some ⟨R + 2 + k, 0, none⟩)), by simp [World.setCell, Array.getElem?_modify, h], by simpa using h2, fun j hj => ?_⟩
  by_cases e : j = k
  · subst e
    rw [Array.getElem?_setIfInBounds_self_of_lt (by omega)]
  · rw [Array.getElem?_setIfInBounds_ne (by omega)]
    exact h3 j (by omega)
theorem RowP.all {w : World} {R n : Nat} (h : RowP w R n n) : RowI w R n (fun k => k) := h

/-- The items that the sort hands back, in their new order. -/
def SortedRow (w w' : World) (S : Nat → Prop) (l ks : List J) (d : Nat → Nat) : Prop := ∃ gv gk : Nat → Value,
  (∀ k, k < l.length → d k < l.length ∧ w'.cell? ⟨w.heap.size, k, none⟩ = some (.pointer (some ⟨w.heap.size + 2 + d k, 0, none⟩)) ∧ w'.cell? ⟨w.heap.size + 2 + d k, 0, none⟩ = some (gv (d k)) ∧ w'.cell? ⟨w.heap.size + 2 + d k, 1, none⟩ = some (gk (d k))) ∧
  (∀ i (hi : i < l.length), ARep w S l[i] (gv i)) ∧ (∀ i (hi : i < ks.length), ARep w S ks[i] (gk i)) ∧ w.heap.size + 2 + l.length ≤ w'.heap.size

/-- One more item in its place. -/
def ItemsP (w wr : World) (n k : Nat) (sl : Value) (gv gk : Nat → Value) : Prop := wr.heap.size = w.heap.size + 2 + k ∧ Below w.heap.size w wr ∧ RowP wr w.heap.size n k ∧ wr.heap[w.heap.size + 1]? = some (.cells #[sl] 133) ∧ ∀ i, i < k → wr.heap[w.heap.size + 2 + i]? = some (.cells #[gv i, gk i] 139)

theorem items_step {w wr : World} {n k : Nat} {sl x y : Value} {gv gk : Nat → Value} (h : ItemsP w wr n k sl gv gk) (hk : k < n) (hx : gv k = x) (hy : gk k = y) :
    ItemsP w (((wr.alloc (.cells #[x, y] 139)).setCell ⟨w.heap.size, k, none⟩ (.pointer (some ⟨w.heap.size + 2 + k, 0, none⟩))).drew) n (k + 1) sl gv gk := by
  obtain ⟨h1, h2, h3, h4, h5⟩ := h
  have hb := below1 wr (.cells #[x, y] 139)
  have hs := size_alloc wr (.cells #[x, y] 139)
  have hne : ∀ b, b ≠ w.heap.size → (((wr.alloc (.cells #[x, y] 139)).setCell ⟨w.heap.size, k, none⟩ (.pointer (some ⟨w.heap.size + 2 + k, 0, none⟩))).drew).heap[b]? = (wr.alloc (.cells #[x, y] 139)).heap[b]? := fun b hb => Below.heap_setCell _ _ _ _ hb
  refine ⟨?_, ?_, ?_, ?_, fun i hi => ?_⟩
  · show ((wr.alloc (.cells #[x, y] 139)).setCell ⟨w.heap.size, k, none⟩ (.pointer (some ⟨w.heap.size + 2 + k, 0, none⟩))).heap.size = _
    simp only [World.setCell, Array.size_modify]
    omega
  · exact ((h2.trans (hb.mono (by omega))).setCell (p := ⟨w.heap.size, k, none⟩) (Nat.le_refl _) _).drew
  · have := (h3.same (hb.block w.heap.size h3.lt)).set hk
    exact this.same rfl
  · rw [hne _ (by omega), hb.block _ (by omega)]
    exact h4
  · rw [hne _ (by omega)]
    by_cases e : i = k
    · subst e
      have := heap_alloc_new wr (.cells #[x, y] 139)
      rw [h1] at this
      rw [this, hx, hy]
    · rw [hb.block _ (by omega)]
      exact h5 i (by omega)

set_option maxHeartbeats 1000000 in
set_option maxRecDepth 100000 in
theorem sortItems_ok (name : ByteArray) (l ks : List J) (hlk : ks.length = l.length) (hlen : l.length ≤ lim) (hok : ∀ k ∈ ks, k.ok) (w : World) (S : Nat → Prop) (hS : ∀ b, S b → b < w.heap.size) (gl gg : Value) (h1 : ARep w S (.arr l) gl) (h2 : ARep w S (.arr ks) gg) :
    Calls Tryz.prog 108 #[.string name, gl, gg] w fun e w' => e = .returned (.tuple #[.slice (some ⟨w.heap.size, 0, none⟩) l.length l.length, .nilIface]) ∧ Below w.heap.size w w' ∧ ∃ d, SortedRow w w' S l ks d ∧ Sh 0 l.length (fun k => k) d ∧ SortedOn (keyLt ks) d 0 l.length := by
  obtain ⟨b1, o1, c1, rfl, _, hb1, ha1⟩ := h1
  obtain ⟨b2, o2, c2, rfl, _, hb2, ha2⟩ := h2
  rw [hlk]
  unfold lim at hlen
  have hmk := run_make133 w l.length (by omega)
  have HI0 := Lib.hid (RowP.new w l.length)
  have HB0 := Lib.hid (below1 w (.cells (madeCells #[.pointer none] l.length) 136))
  have hs1 := size_alloc w (.cells (madeCells #[.pointer none] l.length) 136)
  have hbs := And.intro (hS _ hb1) (hS _ hb2)
  have HCV : Hid (∀ w1, Below w.heap.size w w1 → ∀ i, i < l.length → w1.cell? ⟨b1, o1 + i, none⟩ = some ((w.cell? ⟨b1, o1 + i, none⟩).getD .nilIface) ∧ w1.cell? ⟨b2, o2 + i, none⟩ = some ((w.cell? ⟨b2, o2 + i, none⟩).getD .nilIface)) := Lib.hid fun w1 hb i hi => by
    obtain ⟨c, hc, _⟩ := ACells.at l o1 i hi ha1
    obtain ⟨c', hc', _⟩ := ACells.at ks o2 i (by omega) ha2
    rw [hb.cell (hS _ hb1), hb.cell (hS _ hb2), hc, hc']
    exact ⟨rfl, rfl⟩
  have HRV : Hid ((∀ i (hi : i < l.length), ARep w S l[i] ((w.cell? ⟨b1, o1 + i, none⟩).getD .nilIface)) ∧ (∀ i (hi : i < ks.length), ARep w S ks[i] ((w.cell? ⟨b2, o2 + i, none⟩).getD .nilIface))) := Lib.hid ⟨fun i hi => by
      obtain ⟨c, hc, hr⟩ := ACells.at l o1 i hi ha1
      rw [hc]; exact hr, fun i hi => by
      obtain ⟨c, hc, hr⟩ := ACells.at ks o2 i hi ha2
      rw [hc]; exact hr⟩
  generalize hgv : (fun i => (w.cell? ⟨b1, o1 + i, none⟩).getD .nilIface) = gv at *
  generalize hgk : (fun i => (w.cell? ⟨b2, o2 + i, none⟩).getD .nilIface) = gk at *
  have HV : Hid ((∀ w1, Below w.heap.size w w1 → ∀ i, i < l.length → w1.cell? ⟨b1, o1 + i, none⟩ = some (gv i) ∧ w1.cell? ⟨b2, o2 + i, none⟩ = some (gk i)) ∧ (∀ i (hi : i < l.length), ARep w S l[i] (gv i)) ∧ (∀ i (hi : i < ks.length), ARep w S ks[i] (gk i))) := Lib.hid (by
    rw [← hgv, ← hgk]
    exact ⟨HCV.out, HRV.out⟩)
  have HS := Lib.hid (And.intro hS (And.intro hok hlk))
  clear hgv hgk HCV HRV ha1 ha2 hS hok hlk hb1 hb2
  obtain ⟨hbs1, hbs2⟩ := hbs
  go_enter Tryz.func108, Tryz.ntmps108
  go_wp2_with fail
  have hs2 := size_alloc (w.alloc (.cells (madeCells #[.pointer none] l.length) 136)) (.cells #[.slice (some ⟨w.heap.size, 0, none⟩) l.length l.length] 133)
  have HB1 := Lib.hid (below1 (w.alloc (.cells (madeCells #[.pointer none] l.length) 136)) (.cells #[.slice (some ⟨w.heap.size, 0, none⟩) l.length l.length] 133))
  have hbox := heap_alloc_new (w.alloc (.cells (madeCells #[.pointer none] l.length) 136)) (.cells #[.slice (some ⟨w.heap.size, 0, none⟩) l.length l.length] 133)
  rw [hs1] at hbox
  have HBOX := Lib.hid hbox
  clear hbox
  generalize (w.alloc (.cells (madeCells #[.pointer none] l.length) 136)) = w1 at *
  go_loopw [66] (fun v66 wr => ∃ k : Nat, v66 = .int .i64 k ∧ k ≤ l.length ∧ ItemsP w wr l.length k (.slice (some ⟨w.heap.size, 0, none⟩) l.length l.length) gv gk) (fun v66 _ => l.length - (Go.RowKit.intOf v66).toNat)
  case atStart =>
    exact ⟨0, rfl, Nat.zero_le _, by omega, HB0.out.trans (HB1.out.mono (by omega)), HI0.out.same (HB1.out.block _ (by omega)), HBOX.out, fun i hi => by omega⟩
  case round =>
    obtain ⟨k, rfl, hk, hsz, hbw, hrow, hbx, hit⟩ := hrel
    by_cases hlt : k < l.length
    · have hik : (k : Int) < l.length := by omega
      obtain ⟨hcv, hck⟩ := HV.out.1 wr hbw k hlt
      have hlk : (k : Int) < ks.length := by have := HS.out.2.2; omega
      have HST := Lib.hid (And.intro hsz (And.intro hbw (And.intro hrow (And.intro hbx hit))))
      clear hbw hrow hbx hit
      have hsx := (HV.out.2.1 k hlt).shape
      have hsy := (HV.out.2.2 k (by have := HS.out.2.2; omega)).shape
      have hb1 : wr.drew.cell? ⟨w.heap.size + 1, 0, none⟩ = some (.slice (some ⟨w.heap.size, 0, none⟩) l.length l.length) := by
        have := HST.out.2.2.2.1
        show wr.cell? _ = _
        simp [World.cell?, this]
      generalize hx : gv k = x at hcv hsx
      generalize hy : gk k = y at hck hsy
      have HXY := Lib.hid (And.intro hx hy)
      clear hx hy
      rcases hsx with rfl | ⟨t1, v1, rfl⟩ <;> rcases hsy with rfl | ⟨t2, v2, rfl⟩
      all_goals
        go_upto_region 15 with fail
        have hb2 := (show wr.drew.cell? ⟨b2, o2 + k, none⟩ = wr.cell? ⟨b2, o2 + k, none⟩ from rfl).trans hck
        have hK : Hid (∀ o, ((wr.alloc o).drew).cell? ⟨w.heap.size + 1, 0, none⟩ = some (.slice (some ⟨w.heap.size, 0, none⟩) l.length l.length) ∧ ((wr.alloc o).drew).cell? ⟨b2, o2 + k, none⟩ = wr.cell? ⟨b2, o2 + k, none⟩) := Lib.hid fun o => by
          have hbo := (below1 wr o).drew
          exact ⟨(hbo.cell (p := ⟨w.heap.size + 1, 0, none⟩) (by show w.heap.size + 1 < wr.heap.size; omega)).trans hb1, hbo.cell (p := ⟨b2, o2 + k, none⟩) (by show b2 < wr.heap.size; omega)⟩
        have hK2 : Hid (∀ o v, (((wr.alloc o).setCell ⟨w.heap.size, k, none⟩ v).drew).cell? ⟨w.heap.size + 1, 0, none⟩ = some (.slice (some ⟨w.heap.size, 0, none⟩) l.length l.length) ∧ (((wr.alloc o).setCell ⟨w.heap.size, k, none⟩ v).drew).cell? ⟨b2, o2 + k, none⟩ = wr.cell? ⟨b2, o2 + k, none⟩) := Lib.hid fun o v =>
          ⟨(World.cell?_of_block (w := wr.alloc o) (Below.heap_setCell _ _ _ _ (by show w.heap.size + 1 ≠ w.heap.size; omega))).trans (hK.out o).1, (World.cell?_of_block (w := wr.alloc o) (Below.heap_setCell _ _ _ _ (by show b2 ≠ w.heap.size; omega))).trans (hK.out o).2⟩
        obtain ⟨cv, hcv0⟩ := HST.out.2.2.1.cell k hlt
        have hst1 : ∀ o, ((wr.alloc o).drew).cell? ⟨w.heap.size, k, none⟩ = some cv := fun o => ((below1 wr o).drew.cell (p := ⟨w.heap.size, k, none⟩) HST.out.2.2.1.lt).trans hcv0
        have hst2 : ∀ o, ((wr.alloc o).drew).frozen? ⟨w.heap.size, k, none⟩ = false := fun o => (HST.out.2.2.1.same ((below1 wr o).drew.block w.heap.size HST.out.2.2.1.lt)).frozen k
        clear hcv0
        go_region_held3 (fun w2 => w2.cell? ⟨w.heap.size + 1, 0, none⟩ = some (.slice (some ⟨w.heap.size, 0, none⟩) l.length l.length) ∧ w2.cell? ⟨b2, o2 + k, none⟩ = wr.cell? ⟨b2, o2 + k, none⟩)
          (first | exact ⟨hb1, rfl⟩ | exact hK.out _ | exact hK2.out _ _)
          (fail)
        go_wp2_with fail
        go_roundw
        case rel => exact ⟨k + 1, by go_num, hlt, items_step HST.out hlt HXY.out.1 HXY.out.2⟩
        case measure => simp [Go.RowKit.intOf]; omega
    · have hik : ¬ (k : Int) < l.length := by omega
      obtain rfl : k = l.length := by omega
      have hitems : Items wr w.heap.size l.length ks gv gk S :=
        ⟨HS.out.2.2, by omega, by omega, hbx, hit, HS.out.1, HS.out.2.1, fun i hi => (HV.out.2.2 i hi).keep (.of_below hbw HS.out.1) (fun _ h => h)⟩
      have hsi : SI w.heap.size l.length wr (fun k => k) wr := ⟨fun k hk => hk, .refl _ _ _, hrow.all⟩
      have HSO := Lib.hid (sortRow_ok hitems hsi)
      have hb1 : wr.cell? ⟨w.heap.size + 1, 0, none⟩ = some (.slice (some ⟨w.heap.size, 0, none⟩) l.length l.length) := by simp [World.cell?, hbx]
      have HX := Lib.hid (And.intro hbw (And.intro hbx (And.intro hit hsz)))
      clear hitems hsi hbw hrow hbx hit
      go_wp2_with (go_at_call 158; refine HSO.out.mono ?_; rintro e w3 ⟨rfl, d, hsd, hsh, hso⟩; have hb2 : w3.cell? ⟨w.heap.size + 1, 0, none⟩ = some (.slice (some ⟨w.heap.size, 0, none⟩) l.length l.length) := (hsd.2.1.cell (by omega) (by omega)).trans hb1; have HSD := Lib.hid (And.intro hsd (And.intro hsh hso)); clear hsd hsh hso)
      refine bodyPost_ret (v := .tuple #[.slice (some ⟨w.heap.size, 0, none⟩) l.length l.length, .nilIface]) (by simp [results, Tryz.results108, go_sem]) rfl ?_
      obtain ⟨hsd, hsh, hso⟩ := HSD.out
      obtain ⟨g1, g2, g3, g4⟩ := HX.out
      refine ⟨rfl, g1.trans (hsd.2.1.below (by omega) (Nat.le_refl _)), d, ⟨gv, gk, fun j hj => ?_, HV.out.2.1, HV.out.2.2, by have := hsd.2.1.size; omega⟩, hsh, hso⟩
      have hd := hsd.1 j hj
      have hi := (hsd.2.1.block (w.heap.size + 2 + d j) (by omega) (by omega)).trans (g3 _ hd)
      exact ⟨hd, hsd.2.2.cell j hj, by simp [World.cell?, hi], by simp [World.cell?, hi]⟩
end Go.Gj

/-
  gojq.sortBy.
-/
namespace Go.Gj
set_option linter.unusedSimpArgs false
set_option linter.unusedVariables false
set_option linter.unnecessarySimpa false
open Go Go.RowKit Go.Proofs

/-- The items in their order, in a world. -/
structure RowIs (w1 : World) (R n : Nat) (sl sk : List J) (S : Nat → Prop) (w0 : World) : Prop where
  len : sl.length = n
  lenk : sk.length = n
  at_ : ∀ k (hk : k < n), ∃ (p : Nat) (gv gk : Value), R ≤ p ∧ p < w1.heap.size ∧ w1.cell? ⟨R, k, none⟩ = some (.pointer (some ⟨p, 0, none⟩)) ∧ w1.cell? ⟨p, 0, none⟩ = some gv ∧ w1.cell? ⟨p, 1, none⟩ = some gk ∧
    ARep w0 S (sl[k]'(by rw [len]; exact hk)) gv ∧ ARep w0 S (sk[k]'(by rw [lenk]; exact hk)) gk

theorem getD_J {l : List J} {i : Nat} (h : i < l.length) : l.getD i .null = l[i] := by
  rw [List.getD_eq_getElem?_getD, List.getElem?_eq_getElem h]; rfl

theorem SortedRow.is {w w' : World} {S : Nat → Prop} {l ks : List J} {d : Nat → Nat} (h : SortedRow w w' S l ks d) (hlk : ks.length = l.length) (hok : ∀ k ∈ ks, k.ok) (hs : Sh 0 l.length (fun k => k) d) (hso : SortedOn (keyLt ks) d 0 l.length) :
    RowIs w' w.heap.size l.length (ordL l ks) (ordL ks ks) S w := by
  obtain ⟨gv, gk, h1, h2, h3, h4⟩ := h
  rw [← hlk] at hs hso
  have e1 : (ordL l ks).length = l.length := (ordL_length hok).trans hlk
  have e2 : (ordL ks ks).length = l.length := (ordL_length hok).trans hlk
  refine ⟨e1, e2, fun k hk => ?_⟩
  obtain ⟨hd, c1, c2, c3⟩ := h1 k hk
  have a1 := ordL_at (l := l) hok hs hso k (by omega)
  have a2 := ordL_at (l := ks) hok hs hso k (by omega)
  rw [List.getElem?_eq_getElem (by omega)] at a1 a2
  refine ⟨_, _, _, by omega, by omega, c1, c2, c3, ?_, ?_⟩
  · rw [Option.some.inj a1, getD_J hd]; exact h2 _ hd
  · rw [Option.some.inj a2, getD_J (by omega)]; exact h3 _ (by omega)

theorem RowIs.below {w1 w2 : World} {R n : Nat} {sl sk : List J} {S : Nat → Prop} {w0 : World} (h : RowIs w1 R n sl sk S w0) (hb : Below w1.heap.size w1 w2) (hR : R < w1.heap.size) : RowIs w2 R n sl sk S w0 := by
  refine ⟨h.len, h.lenk, fun k hk => ?_⟩
  obtain ⟨p, gv, gk, h1, h2, c1, c2, c3, h3, h4⟩ := h.at_ k hk
  exact ⟨p, gv, gk, h1, Nat.lt_of_lt_of_le h2 hb.size, (hb.cell hR).trans c1, (hb.cell h2).trans c2, (hb.cell h2).trans c3, h3, h4⟩

/-- A new slice of values that stand elsewhere, filled up to a place. -/
def OutS (w0 : World) (S : Nat → Prop) (w : World) (B n : Nat) (l : List J) : Prop := ∃ cs : Array Value, w.heap[B]? = some (.cells cs 20) ∧ cs.size = n ∧ l.length ≤ n ∧ ∀ j (hj : j < l.length), ∃ c, cs[j]? = some c ∧ ARep w0 S l[j] c

theorem OutS.new (w0 : World) (S : Nat → Prop) (w : World) (n : Nat) : OutS w0 S (w.alloc (.cells (madeCells #[.nilIface] n) 20)) w.heap.size n [] :=
  ⟨_, heap_alloc_new _ _, by rw [size_madeCells], Nat.zero_le _, fun j hj => by cases hj⟩
theorem OutS.lt {w0 w : World} {S : Nat → Prop} {B n : Nat} {l : List J} (h : OutS w0 S w B n l) : B < w.heap.size := by
  obtain ⟨cs, h, _⟩ := h; exact (Array.getElem?_eq_some_iff.1 h).1
theorem OutS.cell {w0 w : World} {S : Nat → Prop} {B n : Nat} {l : List J} (h : OutS w0 S w B n l) (j : Nat) (hj : j < n) : ∃ v, w.cell? ⟨B, j, none⟩ = some v := by
  obtain ⟨cs, h, hs, _⟩ := h
  exact ⟨cs[j]'(by omega), by simp [World.cell?, h]⟩
theorem OutS.frozen {w0 w : World} {S : Nat → Prop} {B n : Nat} {l : List J} (h : OutS w0 S w B n l) (j : Nat) : w.frozen? ⟨B, j, none⟩ = false := by
  obtain ⟨cs, h, _⟩ := h
  simp [World.frozen?, h]
theorem OutS.same {w0 w w' : World} {S : Nat → Prop} {B n : Nat} {l : List J} (h : OutS w0 S w B n l) (hb : w'.heap[B]? = w.heap[B]?) : OutS w0 S w' B n l := by
  obtain ⟨cs, h, h2⟩ := h
  exact ⟨cs, hb.trans h, h2⟩
theorem OutS.set {w0 w : World} {S : Nat → Prop} {B n : Nat} {l : List J} (h : OutS w0 S w B n l) (hk : l.length < n) {x : J} {g : Value} (hg : ARep w0 S x g) : OutS w0 S (w.setCell ⟨B, l.length, none⟩ g) B n (l ++ [x]) := by
  obtain ⟨cs, h, hs, hl, ha⟩ := h
  refine ⟨cs.setIfInBounds l.length g, by simp [World.setCell, Array.getElem?_modify, h], by simpa using hs, by simp; omega, fun j hj => ?_⟩
  by_cases e : j = l.length
  · subst e
    exact ⟨g, by rw [Array.getElem?_setIfInBounds_self_of_lt (by omega)], by simpa using hg⟩
  · have hj' : j < l.length := by simp at hj; omega
    obtain ⟨c, hc, hr⟩ := ha j hj'
    exact ⟨c, by rw [Array.getElem?_setIfInBounds_ne (by omega)]; exact hc, by rw [List.getElem_append_left hj']; exact hr⟩
theorem OutS.rep {w0 w : World} {S : Nat → Prop} {B n : Nat} {l : List J} (h : OutS w0 S w B n l) (hn : l.length = n) (hb : Below w0.heap.size w0 w) (hS : ∀ b, S b → b < w0.heap.size) (hc : n ≤ capMost) : ARep w (allB w) (.arr l) (.iface 80 (.slice (some ⟨B, 0, none⟩) n n)) := by
  have hlt := h.lt
  obtain ⟨cs, h, hs, hl, ha⟩ := h
  refine ⟨B, 0, n, by rw [hn], ⟨by omega, hc⟩, hlt, ACells.of l 0 fun j hj => ?_⟩
  obtain ⟨c, hc, hr⟩ := ha j hj
  exact ⟨c, by simp [World.cell?, h, hc], hr.keep (.of_below hb hS) (lt_below hb hS)⟩

theorem ordL_ok {l ks : List J} (hl : ∀ x ∈ l, x.ok) : ∀ x ∈ ordL l ks, x.ok := fun x hx => by
  obtain ⟨i, _, rfl⟩ := List.mem_map.1 hx
  exact getD_ok hl i

set_option maxHeartbeats 1000000 in
set_option maxRecDepth 100000 in
theorem sortBy_ok (name : ByteArray) (l ks : List J) (hokl : ∀ x ∈ l, x.ok) (hlk : ks.length = l.length) (hlen : l.length ≤ lim) (hok : ∀ k ∈ ks, k.ok) (w : World) (S : Nat → Prop) (hS : ∀ b, S b → b < w.heap.size) (gl gg : Value) (h1 : ARep w S (.arr l) gl) (h2 : ARep w S (.arr ks) gg) :
    Calls Tryz.prog 107 #[.string name, gl, gg] w (AnyGives w (some (.arr (ordL l ks)))) := by
  have HSI := Lib.hid (sortItems_ok name l ks hlk hlen hok w S hS gl gg h1 h2)
  have HS := Lib.hid (And.intro hS (And.intro hlk hok))
  have HOL := Lib.hid hokl
  clear h1 h2 hS hok hokl
  unfold lim at hlen
  go_enter Tryz.func107, Tryz.ntmps107
  go_upto_region 4 with (go_at_call 108; refine HSI.out.mono ?_; rintro e w1 ⟨rfl, hb1, d, hrow, hsh, hso⟩; have HR := Lib.hid (hrow.is HS.out.2.1 HS.out.2.2 hsh hso); have HB1 := Lib.hid hb1; have hR : w.heap.size < w1.heap.size := (by obtain ⟨_, _, _, _, _, h⟩ := hrow; omega); clear hb1 hrow hsh hso)
  have hmk := run_make80 w1 l.length (by omega)
  have HO := Lib.hid (OutS.new w S w1 l.length)
  have HB2 := Lib.hid (below1 w1 (.cells (madeCells #[.nilIface] l.length) 20))
  have hs2 := size_alloc w1 (.cells (madeCells #[.nilIface] l.length) 20)
  go_wp2_with fail
  generalize (w1.alloc (.cells (madeCells #[.nilIface] l.length) 20)) = w2 at *
  go_loopw [27] (fun v27 wr => ∃ k : Nat, v27 = .int .i64 k ∧ k ≤ l.length ∧ Below w1.heap.size w1 wr ∧ w1.heap.size < wr.heap.size ∧ OutS w S wr w1.heap.size l.length ((ordL l ks).take k)) (fun v27 _ => l.length - (Go.RowKit.intOf v27).toNat)
  case atStart => exact ⟨0, rfl, Nat.zero_le _, HB2.out, by omega, by rw [List.take_zero]; exact HO.out⟩
  case round =>
    obtain ⟨k, rfl, hk, hbw, hsz, hout⟩ := hrel
    by_cases hlt : k < l.length
    · have hik : (k : Int) < l.length := by omega
      obtain ⟨p, gv, gk, hp1, hp2, c1, c2, c3, r1, r2⟩ := HR.out.at_ k hlt
      rw [← hbw.cell hR] at c1
      rw [← hbw.cell hp2] at c2
      have hlo : ((ordL l ks).take k).length = k := by rw [List.length_take, HR.out.len]; omega
      obtain ⟨cv, hcv⟩ := hout.cell k hlt
      have hfz := hout.frozen k
      have hset := hout.set (by omega) r1
      rw [hlo, List.take_append_getElem] at hset
      have HN := Lib.hid (And.intro hset (And.intro (hbw.setCell (p := ⟨w1.heap.size, k, none⟩) (Nat.le_refl _) gv) hsz))
      have hshape := r1.shape
      clear c3 r1 r2 hset hout hbw hlo
      rcases hshape with rfl | ⟨t, v, rfl⟩
      all_goals
        go_wp2_with fail
        go_roundw
        case rel => exact ⟨k + 1, by go_num, hlt, HN.out.2.1, by have := HN.out.2.2; simp only [World.setCell, Array.size_modify]; omega, HN.out.1⟩
        case measure => simp [Go.RowKit.intOf]; omega
    · have hik : ¬ (k : Int) < l.length := by omega
      obtain rfl : k = l.length := by omega
      have hfull : (ordL l ks).take l.length = ordL l ks := by rw [List.take_of_length_le (by rw [HR.out.len]; omega)]
      rw [hfull] at hout
      have HN := Lib.hid (And.intro hbw hout)
      clear hbw hout hfull
      go_wp2_with fail
      refine bodyPost_ret (v := .iface 80 (.slice (some ⟨w1.heap.size, 0, none⟩) l.length l.length)) (by simp [results, Tryz.results107, go_sem]) rfl ?_
      have hb := HB1.out.trans (HN.out.1.mono (by omega))
      exact ⟨_, rfl, hb, HN.out.2.rep HR.out.len hb HS.out.1 (by unfold capMost; omega), sz_of_ok _ ⟨by rw [HR.out.len]; unfold lim; omega, (oks_iff _).2 (ordL_ok HOL.out)⟩⟩
end Go.Gj
