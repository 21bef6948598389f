/-
  gojq.keys: the sorted keys of a map, in a new row.
-/
import Derived.Test.YtnlndpgbhmkanaaGreatDoorWCp3
import Derived.Test.YtnlndpgbhmkanaaGreatDoorKeysL
import Derived.Test.YtnlndpgbhmkanaaGreatDoorWFromM
import Derived.Test.YtnlndpgbhmkanaaGreatDoorWToGo3
namespace Go.Gj
set_option linter.unusedSimpArgs false
set_option linter.unusedVariables false
set_option linter.unnecessarySimpa false
open Go Go.RowKit Go.Proofs Go.Sort
open Go.ChangeMaps (setBlock)

theorem run_make24 (w : World) (n : Nat) (hn : n ≤ 10000000000) : (Instr.makeSlice 24 (.int .i64 n) (.int .i64 n)).run Tryz.prog w = .ok (.slice (some ⟨w.heap.size, 0, none⟩) n n) (w.alloc (.cells (madeCells #[.string ⟨#[]⟩] n) 9)) := by
  obtain ⟨i0, hi, hz0, hz1, hz2⟩ := info_parts info9
  have := run_make w 24 9 i0 (.string ⟨#[]⟩) Tryz.underlying24 hi hz0 .i64 .i64 (n : Int) (n : Int) (by omega) (Int.le_refl _) (by rw [hz2]; omega) (by omega)
  rw [hz1] at this
  simpa [Value.cells] using this

/-- A row of n strings, whose first ones are these. -/
def KInv (w : World) (B n : Nat) (vs : List Value) : Prop := ∃ cs : Array Value, w.heap[B]? = some (.cells cs 9) ∧ cs.size = n ∧ vs.length ≤ n ∧ ∀ j (hj : j < vs.length), cs[j]? = some vs[j]

theorem KInv.new (w : World) (n : Nat) : KInv (w.alloc (.cells (madeCells #[.string ⟨#[]⟩] n) 9)) w.heap.size n [] :=
  ⟨_, heap_alloc_new _ _, by rw [size_madeCells], Nat.zero_le _, fun j hj => by cases hj⟩
theorem KInv.lt {w : World} {B n : Nat} {vs : List Value} (h : KInv w B n vs) : B < w.heap.size := by
  obtain ⟨cs, h, _⟩ := h; exact (Array.getElem?_eq_some_iff.1 h).1
theorem KInv.cell {w : World} {B n : Nat} {vs : List Value} (h : KInv w B n vs) (j : Nat) (hj : j < n) : ∃ v, w.cell? ⟨B, j, none⟩ = some v := by
  obtain ⟨cs, h, hs, _⟩ := h
  exact ⟨cs[j]'(by omega), by simp [World.cell?, h]⟩
theorem KInv.frozen {w : World} {B n : Nat} {vs : List Value} (h : KInv w B n vs) (j : Nat) : w.frozen? ⟨B, j, none⟩ = false := by
  obtain ⟨cs, h, _⟩ := h
  simp [World.frozen?, h]
theorem KInv.below {w w' : World} {C B n : Nat} {vs : List Value} (h : KInv w B n vs) (hb : Below C w w') (hB : B < C) : KInv w' B n vs := by
  obtain ⟨cs, h, hs, ha⟩ := h
  exact ⟨cs, (hb.block B hB).trans h, hs, ha⟩
theorem KInv.set {w : World} {B n : Nat} {vs : List Value} (h : KInv w B n vs) (hk : vs.length < n) (g : Value) : KInv (w.setCell ⟨B, vs.length, none⟩ g) B n (vs ++ [g]) := by
  obtain ⟨cs, h, hs, hl, ha⟩ := h
  refine ⟨cs.setIfInBounds vs.length g, by simp [World.setCell, Array.getElem?_modify, h], by simpa using hs, by simp; omega, fun j hj => ?_⟩
  by_cases e : j = vs.length
  · subst e
    rw [Array.getElem?_setIfInBounds_self_of_lt (by omega)]
    simp
  · have hj' : j < vs.length := by simp at hj; omega
    rw [Array.getElem?_setIfInBounds_ne (by omega), ha j hj', List.getElem_append_left hj']
theorem KInv.holds {w : World} {B : Nat} {ss : List (List UInt8)} (h : KInv w B ss.length (ss.map encStr)) : Holds encStr w B 0 ss.toArray := fun j hj => by
  have hf := h.frozen j
  obtain ⟨cs, h, hs, hl, ha⟩ := h
  have hj' : j < ss.length := by simpa using hj
  have := ha j (by simpa using hj')
  rw [Nat.zero_add]
  refine ⟨?_, hf⟩
  simp only [World.cell?, h]
  rw [this]
  simp [hj']

theorem filter_push (p : MapEntry → Bool) (e : MapEntry) : ∀ l : List MapEntry, (l.map (·.born)).Nodup → e ∈ l.filter p → (e :: l.filter (fun x => p x && x.born != e.born)).Perm (l.filter p)
  | [], _, h => by simp at h
  | x :: l, hnd, hm => by
    rw [List.map_cons, List.nodup_cons] at hnd
    by_cases hx : x = e
    · subst hx
      have hp : p x = true := (List.mem_filter.1 hm).2
      have h1 : l.filter (fun y => p y && y.born != x.born) = l.filter p := by
        refine List.filter_congr fun y hy => ?_
        have hne : y.born ≠ x.born := fun h => hnd.1 (List.mem_map.2 ⟨y, hy, h⟩)
        simp [hne]
      simp only [List.filter_cons, hp, bne_self_eq_false, Bool.and_false, if_true, h1]
      exact List.Perm.refl _
    · have hm' : e ∈ l.filter p := by
        rcases List.mem_cons.1 (List.mem_filter.1 hm).1 with h | h
        · exact absurd h.symm hx
        · exact List.mem_filter.2 ⟨h, (List.mem_filter.1 hm).2⟩
      have hel : e ∈ l := (List.mem_filter.1 hm').1
      have hne : (x.born != e.born) = true := by
        have : x.born ≠ e.born := fun h => hnd.1 (List.mem_map.2 ⟨e, hel, h.symm⟩)
        simpa using this
      have ih := filter_push p e l hnd.2 hm'
      cases hs : p x with
      | true =>
        simp only [List.filter_cons, hs, hne, Bool.and_self, if_true]
        exact (List.Perm.swap _ _ _).trans (ih.cons x)
      | false =>
        simp only [List.filter_cons, hs, Bool.false_and, Bool.false_eq_true, if_false]
        exact ih

/-- What is left to range over, but for the one that came up. -/
theorem left_push (es : Array MapEntry) (seen : Array Nat) (e : MapEntry) (he : e ∈ (leftOf es seen).toList) (hn : (es.toList.map (·.born)).Nodup) : (e :: (leftOf es (seen.push e.born)).toList).Perm (leftOf es seen).toList := by
  have h0 : ∀ s : Array Nat, (leftOf es s).toList = es.toList.filter (fun x => !s.contains x.born) := fun s => by simp [leftOf]
  have h1 : es.toList.filter (fun x => !(seen.push e.born).contains x.born) = es.toList.filter (fun x => !seen.contains x.born && x.born != e.born) := by
    refine List.filter_congr fun y _ => ?_
    rw [Bool.eq_iff_iff]
    simp
  rw [h0, h0, h1]
  rw [h0] at he
  exact filter_push _ e _ hn he
end Go.Gj

/-
  gojq.keys: the walk.
-/
namespace Go.Gj
set_option linter.unusedSimpArgs false
set_option linter.unusedVariables false
set_option linter.unnecessarySimpa false
open Go Go.RowKit Go.Proofs Go.Sort
open Go.ChangeMaps (setBlock)

/-- slices.Sort of a new row of strings. -/
theorem sortStrs_ok (ss : List (List UInt8)) (ks : List ByteArray) (hri : rises ks) (hp : ss.Perm (ks.map (·.data.toList))) (w : World) (B : Nat) (hI : KInv w B ss.length (ss.map encStr)) (hsz : ss.length < 4611686018427387904) :
    Calls Tryz.prog 197 #[.slice (some ⟨B, 0, none⟩) ss.length ss.length] w fun e w' => e = .returned (.tuple #[]) ∧ Below B w w' ∧ w.heap.size ≤ w'.heap.size ∧ ∀ j (hj : j < ks.length), w'.cell? ⟨B, j, none⟩ = some (.string ks[j]) := by
  refine (AnyM.slices_Sort_string Tryz.sort197 B 0 ss.length ss w hI.holds hI.lt hsz).mono ?_
  rintro e w' ⟨rfl, n, os, rfl⟩
  have hB := hI.lt
  refine ⟨rfl, ⟨rfl, rfl, rfl, ?_, fun k hk => ?_⟩, ?_, fun j hj => ?_⟩
  · simp [grow, putRow, mapBlock, Sort.ahead]
  · have hk2 : k < w.heap.size := by omega
    simp only [grow, putRow, mapBlock, Sort.ahead]
    rw [Array.getElem?_append_left (by simpa using hk2), Array.getElem?_modify, if_neg (by omega)]
  · simp [grow, putRow, mapBlock, Sort.ahead]
  · have hlen : ss.length = ks.length := by rw [hp.length_eq, List.length_map]
    have hs := sorted_keys hri hp
    have hh := holds_putRow encStr (Sort.ahead w n) B 0 ss.toArray ((ss.mergeSort fun x y => decide (x ≤ y)).toArray) (holds_ahead _ _ _ _ _ _ hI.holds) (by simp)
    have hj2 : j < ((ss.mergeSort fun x y => decide (x ≤ y)).toArray).size := by simp; omega
    have h1 := (holds_grow encStr _ os B 0 _ (by rw [size_putRow]; exact hB) hh j hj2).1
    rw [Nat.zero_add] at h1
    rw [h1]
    have h2 : ((ss.mergeSort fun x y => decide (x ≤ y)).map encStr)[j]? = (ks.map Value.string)[j]? := by rw [hs]
    have hj3 : j < (ss.mergeSort fun x y => decide (x ≤ y)).length := by simpa using hj2
    rw [List.getElem?_map, List.getElem?_map, List.getElem?_eq_getElem hj3, List.getElem?_eq_getElem hj] at h2
    simp only [Option.map_some, Option.some.injEq] at h2
    rw [← h2]
    congr 2
    rw [getElem!_pos _ j hj2]
    simp

theorem encStr_data (k : ByteArray) : encStr k.data.toList = Value.string k := by
  obtain ⟨a⟩ := k
  simp [encStr]

def strOf : Value → ByteArray
  | .string s => s
  | _ => ⟨#[]⟩

/-- A shuffled row of strings, as lists of bytes. -/
theorem strs_of {L : List Value} {ks : List ByteArray} (h : L.Perm (ks.map Value.string)) : ∃ ss : List (List UInt8), ss.Perm (ks.map (·.data.toList)) ∧ ss.map encStr = L := by
  refine ⟨(L.map strOf).map (·.data.toList), ?_, ?_⟩
  · have h1 : (L.map strOf).Perm ks := by
      have := h.map strOf
      rw [List.map_map] at this
      have h2 : ks.map (strOf ∘ Value.string) = ks := by
        conv => rhs; rw [← List.map_id ks]
        exact List.map_congr_left fun k _ => rfl
      rw [h2] at this
      exact this
    exact h1.map _
  · rw [List.map_map, List.map_map]
    conv => rhs; rw [← List.map_id L]
    refine List.map_congr_left fun v hv => ?_
    obtain ⟨k, _, rfl⟩ := List.mem_map.1 (h.subset hv)
    exact encStr_data k

theorem run_len83 {w : World} {r : Nat} {es : Array MapEntry} {clk : Nat} (h : w.heap[r]? = some (.map es clk)) (ty : TypeId) : (Builtin.len_ #[83] ty #[.map (some r)]).run Tryz.prog w = .ok (.int .i64 es.size) w := by
  have hu : Tryz.prog.underlying 83 = some (.map 9 20) := Tryz.underlying83
  simp [Builtin.len_, underlying, hu, MapKept.run_getObj_map h, goInt, Result.andThen]

set_option maxRecDepth 100000 in
theorem sortStrs238_ok {B n : Nat} {w : World} {R : World → Prop} (h : Calls Tryz.prog 197 #[.slice (some ⟨B, 0, none⟩) n n] w fun e w' => e = .returned (.tuple #[]) ∧ R w') :
    Calls Tryz.prog 238 #[.slice (some ⟨B, 0, none⟩) n n] w fun e w' => e = .returned (.tuple #[]) ∧ R w' := by
  have H := Lib.hid h
  clear h
  go_enter Tryz.func238, Tryz.ntmps238
  go_wp2_with (go_at_call 197; refine H.out.mono ?_; rintro e w2 ⟨rfl, hR⟩; have HR := Lib.hid hR; clear hR)
  go_end0
  exact ⟨rfl, HR.out⟩

set_option maxHeartbeats 1000000 in
set_option maxRecDepth 100000 in
theorem keys188_ok (ks : List ByteArray) (es : Array MapEntry) (clk r : Nat) (w : World) (hb0 : w.heap[r]? = some (.map es clk)) (hst : MapKept.Stamped es clk) (hperm : (es.toList.map (·.key)).Perm (ks.map Value.string)) (hlen : ks.length ≤ lim) (hri : rises ks) :
    Calls Tryz.prog 188 #[.map (some r)] w fun e w' => e = .returned (.slice (some ⟨w.heap.size, 0, none⟩) ks.length ks.length) ∧ Below w.heap.size w w' ∧ w.heap.size < w'.heap.size ∧ ∀ j (hj : j < ks.length), w'.cell? ⟨w.heap.size, j, none⟩ = some (.string ks[j]) := by
  have hsz : es.size = ks.length := by have := hperm.length_eq; simpa using this
  unfold lim at hlen
  have hr : r < w.heap.size := (Array.getElem?_eq_some_iff.1 hb0).1
  have hmk := run_make24 w ks.length (by omega)
  have HI0 := Lib.hid (KInv.new w ks.length)
  have HB0 := Lib.hid (below1 w (.cells (madeCells #[.string ⟨#[]⟩] ks.length) 9))
  have hw1 : (w.alloc (.cells (madeCells #[.string ⟨#[]⟩] ks.length) 9)).heap[r]? = some (.map es clk) := (HB0.out.block r hr).trans hb0
  have hs1 := size_alloc w (.cells (madeCells #[.string ⟨#[]⟩] ks.length) 9)
  have hrg := run_range_map (w.alloc (.cells (madeCells #[.string ⟨#[]⟩] ks.length) 9)) 83 9 20 r es clk Tryz.underlying83 hw1
  have hle := run_len83 hb0
  rw [hsz] at hle
  have HSZ := Lib.hid hsz
  have HST := Lib.hid hst
  have HPERM := Lib.hid hperm
  have HRI := Lib.hid hri
  clear hst hperm hri hb0 hsz
  have HW1 := Lib.hid hw1
  clear hw1
  go_enter Tryz.func188, Tryz.ntmps188
  go_wp2_with fail
  have hs2 := size_alloc (w.alloc (.cells (madeCells #[.string ⟨#[]⟩] ks.length) 9)) (.mapIter (some r) clk #[] clk)
  have HR0 : Hid (∃ (seen : Array Nat) (c0 : Nat) (vis : List MapEntry), (0 : Int) = vis.length ∧ w.heap.size + 1 < ((w.alloc (.cells (madeCells #[.string ⟨#[]⟩] ks.length) 9)).alloc (.mapIter (some r) clk #[] clk)).heap.size ∧ ((w.alloc (.cells (madeCells #[.string ⟨#[]⟩] ks.length) 9)).alloc (.mapIter (some r) clk #[] clk)).heap[w.heap.size + 1]? = some (.mapIter (some r) clk seen c0) ∧ clk ≤ c0 ∧ ((w.alloc (.cells (madeCells #[.string ⟨#[]⟩] ks.length) 9)).alloc (.mapIter (some r) clk #[] clk)).heap[r]? = some (.map es clk) ∧
      KInv ((w.alloc (.cells (madeCells #[.string ⟨#[]⟩] ks.length) 9)).alloc (.mapIter (some r) clk #[] clk)) w.heap.size ks.length (vis.map (·.key)) ∧ (vis ++ (leftOf es seen).toList).Perm es.toList ∧ Below w.heap.size w ((w.alloc (.cells (madeCells #[.string ⟨#[]⟩] ks.length) 9)).alloc (.mapIter (some r) clk #[] clk))) := Lib.hid (by
    have hb2 := below1 (w.alloc (.cells (madeCells #[.string ⟨#[]⟩] ks.length) 9)) (.mapIter (some r) clk #[] clk)
    refine ⟨#[], clk, [], rfl, by omega, ?_, Nat.le_refl _, (hb2.block r (by omega)).trans HW1.out, HI0.out.below hb2 (by omega), ?_, HB0.out.trans (hb2.mono (by omega))⟩
    · have := heap_alloc_new (w.alloc (.cells (madeCells #[.string ⟨#[]⟩] ks.length) 9)) (.mapIter (some r) clk #[] clk)
      rw [hs1] at this
      exact this
    · have h : (leftOf es #[]).toList = es.toList := by
        have : (leftOf es #[]).toList = es.toList.filter (fun x => !(#[] : Array Nat).contains x.born) := by simp [leftOf]
        rw [this]
        exact List.filter_eq_self.2 fun x _ => by simp
      rw [h]
      exact List.Perm.refl _)
  clear HI0 HB0 HW1 hrg hmk hle
  generalize hw2 : (w.alloc (.cells (madeCells #[.string ⟨#[]⟩] ks.length) 9)).alloc (.mapIter (some r) clk #[] clk) = w2 at HR0 hs2 ⊢
  clear hw2
  try rw [hs1]
  go_loopw [4] (fun v4 wr => ∃ (seen : Array Nat) (c0 : Nat) (vis : List MapEntry), v4 = .int .i64 vis.length ∧ w.heap.size + 1 < wr.heap.size ∧ wr.heap[w.heap.size + 1]? = some (.mapIter (some r) clk seen c0) ∧ clk ≤ c0 ∧ wr.heap[r]? = some (.map es clk) ∧
      KInv wr w.heap.size ks.length (vis.map (·.key)) ∧ (vis ++ (leftOf es seen).toList).Perm es.toList ∧ Below w.heap.size w wr) (fun _ wr => (leftOf es (wr.iterSeen (w.heap.size + 1))).size)
  case atStart =>
    obtain ⟨seen, c0, vis, h0, hrest⟩ := HR0.out
    exact ⟨seen, c0, vis, by rw [← h0], hrest⟩
  case round =>
    obtain ⟨seen, c0, vis, rfl, hsz, hit, hcc, hes, hki, hpv, hbw⟩ := hrel
    have hty : ∀ ty, (Instr.next (.pointer (some ⟨w.heap.size + 1, 0, none⟩)) false ty).run Tryz.prog wr = (Instr.next (.pointer (some ⟨w.heap.size + 1, 0, none⟩)) false 0).run Tryz.prog wr := fun _ => rfl
    rcases run_next_at (P := Tryz.prog) wr 0 (w.heap.size + 1) r clk c0 seen es clk hit hes (fun x hx => HST.out.1 x hx) hcc with ⟨hn0, hrun⟩ | ⟨e, he, w3, hal, hrun⟩
    · rw [hrun] at hty
      clear hrun
      have hvis : vis.Perm es.toList := by
        have hnil : (leftOf es seen).toList = [] := by rw [← List.length_eq_zero_iff, Array.length_toList]; exact hn0
        rw [hnil, List.append_nil] at hpv
        exact hpv
      obtain ⟨ss, hss, hmap⟩ : ∃ ss : List (List UInt8), ss.Perm (ks.map (·.data.toList)) ∧ ss.map encStr = vis.map (·.key) := by
        exact strs_of ((hvis.map _).trans HPERM.out)
      have hl2 : ss.length = ks.length := by rw [hss.length_eq, List.length_map]
      rw [← hmap, ← hl2] at hki
      have HSORT := Lib.hid (sortStrs238_ok (sortStrs_ok ss ks HRI.out hss wr w.heap.size hki (by omega)))
      rw [hl2] at HSORT
      have HBW := Lib.hid hbw
      clear hit hes hki hpv hbw hn0 hcc
      go_wp2_with (go_at_call 238; refine HSORT.out.mono ?_; rintro e w4 ⟨rfl, hx, hsz4, hcells⟩; have HX := Lib.hid (And.intro hx (And.intro hsz4 hcells)); clear hx hsz4 hcells)
      exact bodyPost_ret (v := .slice (some ⟨w.heap.size, 0, none⟩) ks.length ks.length) (by simp [results, Tryz.results188, go_sem]) rfl ⟨rfl, HBW.out.trans HX.out.1, by have := HX.out.2.1; omega, HX.out.2.2⟩
    · rw [hrun] at hty
      clear hrun
      have hel := mem_left he
      obtain ⟨wn, hwn⟩ : ∃ wn, wn = setBlock w3 (w.heap.size + 1) (.mapIter (some r) clk (seen.push e.born) clk) := ⟨_, rfl⟩
      have hbn : Below (w.heap.size + 1) wr wn := by rw [hwn]; exact below_iter hal (Nat.le_refl _)
      have hsn : wn.heap.size = wr.heap.size := by rw [hwn]; exact size_iter hal
      have hin : wn.heap[w.heap.size + 1]? = some (.mapIter (some r) clk (seen.push e.born) clk) := by rw [hwn]; exact at_iter hal hsz
      rw [← hwn] at hty
      clear hwn hal
      have hes2 : wn.heap[r]? = some (.map es clk) := (hbn.block r (by omega)).trans hes
      have hent := run_entry_at (P := Tryz.prog) wn (w.heap.size + 1) r clk seen es clk e hin hes2 hel.1 HST.out.2.1
      have HME : Hid ((leftOf es (seen.push e.born)).size < (leftOf es seen).size ∧ wr.iterSeen (w.heap.size + 1) = seen) := Lib.hid ⟨left_shrinks es seen e he, by simp [World.iterSeen, hit]⟩
      have hpush := left_push es seen e (by simpa using he) HST.out.2.1
      have hkn := hki.below hbn (by omega)
      have hvl : vis.length < ks.length := by
        have h1 := hpv.length_eq
        have h2 := hpush.length_eq
        rw [List.length_append] at h1
        rw [List.length_cons] at h2
        have h3 : es.toList.length = ks.length := by rw [Array.length_toList]; exact HSZ.out
        omega
      have hkn2 := hkn.set (by simpa using hvl) e.key
      obtain ⟨cv, hcv⟩ := hkn.cell vis.length hvl
      have hfz := hkn.frozen vis.length
      have hstr : ∃ s : ByteArray, e.key = .string s := by
        obtain ⟨k, _, hk⟩ := List.mem_map.1 (HPERM.out.subset (List.mem_map.2 ⟨e, hel.1, rfl⟩))
        exact ⟨k, hk.symm⟩
      have HN := Lib.hid (And.intro hkn2 (And.intro hpv (And.intro hpush (And.intro hbw (And.intro hbn (And.intro hin hes2))))))
      clear hes hit hki hpv hbw hcc hkn hkn2 hpush he hel hin hes2
      obtain ⟨ek, ev, eb⟩ := e
      simp only at *
      obtain ⟨sk, rfl⟩ := hstr
      go_wp2_with fail
      go_roundw
      case rel =>
        obtain ⟨q1, q2, q3, q4, q5, q6, q7⟩ := HN.out
        have hlt := q4.size
        have hne : ∀ b, b ≠ w.heap.size → (wn.setCell ⟨w.heap.size, vis.length, none⟩ (.string sk)).heap[b]? = wn.heap[b]? := fun b hb => Below.heap_setCell _ _ _ _ hb
        refine ⟨_, clk, vis ++ [⟨.string sk, ev, eb⟩], by rw [List.length_append, List.length_singleton]; go_num, by simp only [World.setCell, Array.size_modify]; omega, (hne _ (by omega)).trans q6, Nat.le_refl _, (hne _ (by omega)).trans q7, ?_, ?_, ?_⟩
        · rw [List.map_append]
          simp only [List.length_map] at q1
          exact q1
        · rw [List.append_assoc]
          exact (q3.append_left vis).trans q2
        · exact ((q4.trans (q5.mono (by omega))).setCell (p := ⟨w.heap.size, vis.length, none⟩) (Nat.le_refl _) _)
      case measure =>
        have h1 : (wn.setCell ⟨w.heap.size, vis.length, none⟩ (.string sk)).iterSeen (w.heap.size + 1) = seen.push eb := by
          have : (wn.setCell ⟨w.heap.size, vis.length, none⟩ (.string sk)).heap[w.heap.size + 1]? = _ := (Below.heap_setCell _ _ _ _ (by show w.heap.size + 1 ≠ w.heap.size; omega)).trans HN.out.2.2.2.2.2.1
          simp [World.iterSeen, this]
        rw [HME.out.2, h1]
        exact HME.out.1
end Go.Gj

/-
  gojq.funcKeys at an object: the sorted keys, as a value of any.
-/
namespace Go.Gj
set_option linter.unusedSimpArgs false
set_option linter.unusedVariables false
set_option linter.unnecessarySimpa false
open Go Go.RowKit Go.Proofs

set_option maxHeartbeats 1000000 in
set_option maxRecDepth 100000 in
theorem funcKeys_ok (ks : List ByteArray) (es : Array MapEntry) (clk r : Nat) (w : World) (hb0 : w.heap[r]? = some (.map es clk)) (hst : MapKept.Stamped es clk) (hperm : (es.toList.map (·.key)).Perm (ks.map Value.string)) (hlen : ks.length ≤ lim) (hri : rises ks) (hks : ∀ k ∈ ks, k.size ≤ mostLen) :
    Calls Tryz.prog 168 #[.iface 83 (.map (some r))] w fun e w' => e = .returned (.iface 80 (.slice (some ⟨w.heap.size, 0, none⟩) ks.length ks.length)) ∧ Below w.heap.size w w' ∧ w.heap.size < w'.heap.size ∧
      ARep w' (since w.heap.size w') (.arr (ks.map .str)) (.iface 80 (.slice (some ⟨w.heap.size, 0, none⟩) ks.length ks.length)) ∧ ∀ j (hj : j < ks.length), w'.cell? ⟨w.heap.size, j, none⟩ = some (.iface 9 (.string ks[j])) := by
  have hsz : es.size = ks.length := by have := hperm.length_eq; simpa using this
  have hr : r < w.heap.size := (Array.getElem?_eq_some_iff.1 hb0).1
  have hmk := run_make80 w ks.length (by unfold lim at hlen; omega)
  have hI0 := OutInv.new w (ks.map .str)
  rw [List.length_map] at hI0
  have HI0 := Lib.hid hI0
  have HB0 := Lib.hid (below1 w (.cells (madeCells #[.nilIface] ks.length) 20))
  have hs1 := size_alloc w (.cells (madeCells #[.nilIface] ks.length) 20)
  have hle := run_len83 hb0
  rw [hsz] at hle
  have hle2 := run_len83 ((HB0.out.block r hr).trans hb0)
  rw [hsz] at hle2
  have HK := Lib.hid (keys188_ok ks es clk r (w.alloc (.cells (madeCells #[.nilIface] ks.length) 20)) ((HB0.out.block r hr).trans hb0) hst hperm hlen hri)
  rw [hs1] at HK
  have HKS := Lib.hid hks
  unfold lim at hlen
  clear hb0 hst hperm hri hks hsz hI0
  go_enter Tryz.func168, Tryz.ntmps168
  go_wp2_with (go_at_call 188; refine HK.out.mono ?_; rintro e w2 ⟨rfl, hx, hsz2, hcells⟩; have HX := Lib.hid (And.intro hx (And.intro hsz2 hcells)); clear hx hsz2 hcells)
  have HR0 : Hid (Below w.heap.size w w2 ∧ OutInv w2 w.heap.size (ks.map .str) 0 ∧ (∀ j (hj : j < ks.length), w2.cell? ⟨w.heap.size + 1, j, none⟩ = some (.string ks[j])) ∧ w.heap.size + 1 < w2.heap.size) := Lib.hid ⟨HB0.out.trans (HX.out.1.mono (by omega)), HI0.out.below (HX.out.1.mono (by omega)), HX.out.2.2, HX.out.2.1⟩
  clear HB0 HI0 HX hle hle2 hmk
  go_loopw [44] (fun v44 wr => ∃ k : Nat, v44 = .int .i64 k ∧ k ≤ ks.length ∧ Below w.heap.size w wr ∧ OutInv wr w.heap.size (ks.map .str) k ∧ (∀ j (hj : j < ks.length), wr.cell? ⟨w.heap.size + 1, j, none⟩ = some (.string ks[j])) ∧ w.heap.size + 1 < wr.heap.size) (fun v44 _ => ks.length - (Go.RowKit.intOf v44).toNat)
  case atStart => exact ⟨0, rfl, Nat.zero_le _, HR0.out⟩
  case round =>
    obtain ⟨k, rfl, hk, hbw, hinv, hcells, hsz⟩ := hrel
    by_cases hlt : k < ks.length
    · have hik : (k : Int) < ks.length := by omega
      have hck := hcells k hlt
      obtain ⟨cv, hcv⟩ := hinv.cell k (by simpa using hlt)
      have hfz := hinv.frozen k
      have hset := hinv.set (g := .iface 9 (.string ks[k])) (by simpa using hlt) (by simp only [List.getElem_map]; exact ⟨rfl, HKS.out _ (List.getElem_mem hlt)⟩)
      have HN := Lib.hid (And.intro hset (And.intro (hbw.setCell (p := ⟨w.heap.size, k, none⟩) (Nat.le_refl _) (.iface 9 (.string ks[k]))) (And.intro hcells hsz)))
      clear hinv hset hcells hbw hsz
      go_wp2_with fail
      go_roundw
      case rel =>
        obtain ⟨q1, q2, q3, q4⟩ := HN.out
        refine ⟨k + 1, by go_num, hlt, q2, q1, fun j hj => ?_, by simp only [World.setCell, Array.size_modify]; omega⟩
        rw [← q3 j hj]
        exact World.cell?_of_block (Below.heap_setCell _ _ _ _ (by show w.heap.size + 1 ≠ w.heap.size; omega))
      case measure => simp [Go.RowKit.intOf]; omega
    · have hik : ¬ (k : Int) < ks.length := by omega
      obtain rfl : k = ks.length := by omega
      have HN := Lib.hid (And.intro hbw (And.intro hinv hsz))
      clear hbw hinv hcells hsz
      go_wp2_with fail
      refine bodyPost_ret (v := .iface 80 (.slice (some ⟨w.heap.size, 0, none⟩) ks.length ks.length)) (by simp [results, Tryz.results168, go_sem]) rfl ?_
      obtain ⟨q1, q2, q3⟩ := HN.out
      have hl : (ks.map J.str).length = ks.length := List.length_map ..
      refine ⟨rfl, q1, by omega, ⟨w.heap.size, 0, ks.length, by rw [hl], ⟨by omega, by unfold capMost; omega⟩, ⟨Nat.le_refl _, by omega⟩, ?_⟩, fun j hj => ?_⟩
      · rw [← hl] at q2
        exact q2.all
      · obtain ⟨cs, h1, h2, h3⟩ := q2
        obtain ⟨c, hc, hr⟩ := h3 j (by rw [hl]; exact hj) hj
        simp only [List.getElem_map] at hr
        obtain ⟨rfl, _⟩ := hr
        simp [World.cell?, h1, hc]
end Go.Gj
