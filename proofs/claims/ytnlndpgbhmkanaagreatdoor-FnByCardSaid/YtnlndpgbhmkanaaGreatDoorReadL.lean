/-
  What a reading of an argument gives: a record impl.Value, a list of such, a list of strings, as plain data.
-/
import Derived.Test.YtnlndpgbhmkanaaGreatDoorKitX
import Derived.ChangeArms
import Derived.SizedLaws
import Derived.Lib.LaidRTab
namespace Go.Gj
open Go Go.RowKit

/-- The types of a record. -/
structure VT (P : Program) : Prop where
  t26 : ∃ fs : Array Field, P.underlying 26 = some (.struct fs) ∧ fs.map (fun f => (f.type, f.offset)) = #[(22, 0), (3, 1), (9, 2), (23, 3), (24, 4), (23, 5)]
  c26 : P.cellsOf 26 = 6
  c22 : P.cellsOf 22 = 1
  c3 : P.cellsOf 3 = 1
  c9 : P.cellsOf 9 = 1
  c23 : P.cellsOf 23 = 1
  c24 : P.cellsOf 24 = 1
  u22 : P.underlying 22 = some (.int .i64)
  u3 : P.underlying 3 = some (.int .i64)
  u9 : P.underlying 9 = some .string
  u23 : P.underlying 23 = some (.slice 26)
  u24 : P.underlying 24 = some (.slice 9)
  b26 : 0 < P.bytesOf 26
  b9 : 0 < P.bytesOf 9

/-- All blocks that there are. -/
def allB (w : World) : Nat → Prop := fun b => b < w.heap.size

theorem cells_get {w : World} {base : Nat} {a : Addr} {n : Nat} {cs : List Value} (h : w.cells? base a n = some cs) : cs.length = n ∧ ∀ i, i < n → w.cell? (a.add i) = cs[i]? := by
  unfold World.cells? at h
  split at h
  · refine ⟨by simpa using mapM_some_length h, fun i hi => mapM_some_get h i i (by simp [hi])⟩
  · cases h

theorem spot_of {w : World} {a : Addr} {v : Value} (h : w.cell? a = some v) : a = ⟨a.block, a.off, none⟩ ∧ a.block < w.heap.size := by
  obtain ⟨b, o, s⟩ := a
  refine ⟨?_, World.block_lt_of_cell? w _ h⟩
  unfold World.cell? at h
  cases s with
  | none => rfl
  | some x => simp at h; split at h <;> simp at h

theorem weightsAll_mem {H : Type} {P : Program} {e : TypeId} : ∀ (ds : List (DataW H)) (d : DataW H), d ∈ ds → ∀ n ∈ d.weights P e, n ∈ DataW.weightsAll P e ds
  | x :: r, d, hd, n, hn => by
    rcases List.mem_cons.1 hd with rfl | hd
    · simp only [DataW.weightsAll, List.mem_append]; exact .inl hn
    · simp only [DataW.weightsAll, List.mem_append]; exact .inr (weightsAll_mem r d hd n hn)

theorem VCells_mk {w : World} {S : Nat → Prop} {b : Nat} : ∀ (n o : Nat), (∀ i, i < n → ∃ (v : V) (c0 c1 c2 c3 c4 c5 : Value), w.cell? ⟨b, o + i * 6, none⟩ = some c0 ∧ w.cell? ⟨b, o + i * 6 + 1, none⟩ = some c1 ∧ w.cell? ⟨b, o + i * 6 + 2, none⟩ = some c2 ∧
      w.cell? ⟨b, o + i * 6 + 3, none⟩ = some c3 ∧ w.cell? ⟨b, o + i * 6 + 4, none⟩ = some c4 ∧ w.cell? ⟨b, o + i * 6 + 5, none⟩ = some c5 ∧ VRep w S v (.agg #[c0, c1, c2, c3, c4, c5])) → ∃ l : List V, l.length = n ∧ VCells w S b l o
  | 0, _, _ => ⟨[], rfl, trivial⟩
  | n + 1, o, h => by
    obtain ⟨v, c0, c1, c2, c3, c4, c5, h0, h1, h2, h3, h4, h5, hr⟩ := h 0 (by omega)
    obtain ⟨l, hl, hc⟩ := VCells_mk n (o + 6) fun i hi => by
      obtain ⟨v', d0, d1, d2, d3, d4, d5, k0, k1, k2, k3, k4, k5, hr'⟩ := h (i + 1) (by omega)
      rw [show o + (i + 1) * 6 = o + 6 + i * 6 by omega] at k0 k1 k2 k3 k4 k5
      exact ⟨v', d0, d1, d2, d3, d4, d5, k0, k1, k2, k3, k4, k5, hr'⟩
    simp only [Nat.zero_mul, Nat.add_zero] at h0 h1 h2 h3 h4 h5
    exact ⟨v :: l, by simp [hl], ⟨c0, c1, c2, c3, c4, c5, h0, h1, h2, h3, h4, h5, hr⟩, hc⟩

theorem KCells_mk {w : World} {b : Nat} : ∀ (n o : Nat), (∀ i, i < n → ∃ s : ByteArray, w.cell? ⟨b, o + i, none⟩ = some (.string s) ∧ s.size ≤ mostLen) → ∃ l : List ByteArray, l.length = n ∧ KCells w b l o
  | 0, _, _ => ⟨[], rfl, trivial⟩
  | n + 1, o, h => by
    obtain ⟨s, h0, h1⟩ := h 0 (by omega)
    obtain ⟨l, hl, hc⟩ := KCells_mk n (o + 1) fun i hi => by
      obtain ⟨s', k0, k1⟩ := h (i + 1) (by omega)
      rw [show o + (i + 1) = o + 1 + i by omega] at k0
      exact ⟨s', k0, k1⟩
    exact ⟨s :: l, by simp [hl], by simpa using h0, h1, hc⟩

section
variable {H : Type} {enc : TypeId × Value → H} {P : Program} {w : World} {sp : Nat → Bool} {held : Bool}

theorem size_toList (s : ByteArray) : s.data.toList.length = s.size := by rw [Array.length_toList]; rfl

theorem len_of_bytes {n m k : Nat} (hk : 0 < k) (h : (n + m) * k ≤ reachBytes) : n ≤ mostLen := by
  have h1 : n * 1 ≤ (n + m) * k := Nat.mul_le_mul (by omega) hk
  have h2 : reachBytes = mostLen := by decide
  omega

/-- A slice of records, by what is known of its elements. -/
theorem read_slV (T : VT P) (fuel : Nat)
    (ih : ∀ f, f < fuel → ∀ cs x, DataW.trod enc P w 0 sp held f 26 cs = some x → (∀ n ∈ x.1.weights P 26, n ≤ reachBytes) → ∃ v : V, VRep w (allB w) v (.agg cs.toArray))
    (cs : List Value) (x : DataW H × List MemPlace) (h : DataW.trod enc P w 0 sp held fuel 23 cs = some x) (hw : ∀ n ∈ x.1.weights P 23, n ≤ reachBytes) :
    ∃ (l : List V) (s : Value), cs = [s] ∧ SlOf (allB w) l.length (fun b o => VCells w (allB w) b l o) s := by
  rcases DataW.trod_slice T.u23 h with ⟨rfl, rfl⟩ | ⟨a, len, cap, elems, rest, n, rfl, rfl, rfl, _, hlc, _, hlen, hel, _⟩
  · exact ⟨[], _, rfl, none, 0, rfl, by simp [mostLen], .inl rfl⟩
  · simp only [DataW.weights, T.u23, List.mem_cons, List.mem_append] at hw
    have hb := hw _ (.inl rfl)
    simp only [List.length_map] at hb
    have hlm : len ≤ mostLen := by have := len_of_bytes T.b26 hb; omega
    rw [T.c26] at hel
    have each : ∀ i, i < len → ∃ (v : V) (cs' : List Value), cs'.length = 6 ∧ (∀ j, j < 6 → w.cell? ((a.add (i * 6)).add j) = cs'[j]?) ∧ VRep w (allB w) v (.agg cs'.toArray) := by
      intro i hi
      have he := hel i hi
      obtain ⟨y, hy⟩ : ∃ y, elems[i]? = some y := ⟨elems[i]'(by omega), List.getElem?_eq_getElem (by omega)⟩
      rw [hy, Option.bind_eq_some_iff] at he
      obtain ⟨cs', hcs, ht⟩ := he
      obtain ⟨hl', hc'⟩ := cells_get hcs
      obtain ⟨v, hv⟩ := ih n (by omega) cs' y ht fun m hm => hw m (.inr (.inl (weightsAll_mem _ y.1 (List.mem_map.2 ⟨y, List.mem_of_getElem? hy, rfl⟩) m hm)))
      exact ⟨v, cs', hl', hc', hv⟩
    by_cases h0 : len = 0
    · subst h0
      exact ⟨[], _, rfl, some a, cap, rfl, by simp [mostLen], .inl rfl⟩
    · obtain ⟨v0, cs0, hl0, hc0, _⟩ := each 0 (by omega)
      have hz := hc0 0 (by omega)
      rw [List.getElem?_eq_getElem (by omega)] at hz
      have ha : (a.add (0 * 6)).add 0 = a := by simp [Addr.add]
      rw [ha] at hz
      obtain ⟨ha2, hab⟩ := spot_of hz
      obtain ⟨l, hll, hcl⟩ := VCells_mk (w := w) (S := allB w) (b := a.block) len a.off fun i hi => by
        obtain ⟨v, cs', hl', hc', hv⟩ := each i hi
        obtain ⟨c0, c1, c2, c3, c4, c5, rfl⟩ : ∃ c0 c1 c2 c3 c4 c5, cs' = [c0, c1, c2, c3, c4, c5] := by
          match cs', hl' with
          | [c0, c1, c2, c3, c4, c5], _ => exact ⟨c0, c1, c2, c3, c4, c5, rfl⟩
        have e : ∀ j, (a.add (i * 6)).add j = ⟨a.block, a.off + i * 6 + j, none⟩ := by
          intro j
          rw [ha2]
          unfold Addr.add
          by_cases hi0 : i * 6 = 0 <;> by_cases hj : j = 0 <;> simp [hi0, hj]
        have k := fun j hj => (e j) ▸ hc' j hj
        exact ⟨v, c0, c1, c2, c3, c4, c5, k 0 (by omega), k 1 (by omega), k 2 (by omega), k 3 (by omega), k 4 (by omega), k 5 (by omega), hv⟩
      refine ⟨l, _, rfl, some a, cap, by rw [hll], by omega, .inr ⟨a.block, a.off, by rw [← ha2], hab, hcl⟩⟩

/-- A slice of strings. -/
theorem read_slK (T : VT P) (fuel : Nat) (cs : List Value) (x : DataW H × List MemPlace) (h : DataW.trod enc P w 0 sp held fuel 24 cs = some x) (hw : ∀ n ∈ x.1.weights P 24, n ≤ reachBytes) :
    ∃ (l : List ByteArray) (s : Value), cs = [s] ∧ SlOf (allB w) l.length (fun b o => KCells w b l o) s := by
  rcases DataW.trod_slice T.u24 h with ⟨rfl, rfl⟩ | ⟨a, len, cap, elems, rest, n, rfl, rfl, rfl, _, hlc, _, hlen, hel, _⟩
  · exact ⟨[], _, rfl, none, 0, rfl, by simp [mostLen], .inl rfl⟩
  · simp only [DataW.weights, T.u24, List.mem_cons, List.mem_append] at hw
    have hb := hw _ (.inl rfl)
    simp only [List.length_map] at hb
    have hlm : len ≤ mostLen := by have := len_of_bytes T.b9 hb; omega
    rw [T.c9] at hel
    have hre : reachBytes = mostLen := by decide
    have each : ∀ i, i < len → ∃ s : ByteArray, w.cell? (a.add i) = some (.string s) ∧ s.size ≤ mostLen := by
      intro i hi
      have he := hel i hi
      obtain ⟨y, hy⟩ : ∃ y, elems[i]? = some y := ⟨elems[i]'(by omega), List.getElem?_eq_getElem (by omega)⟩
      rw [hy, Option.bind_eq_some_iff] at he
      obtain ⟨cs', hcs, ht⟩ := he
      obtain ⟨hl', hc'⟩ := cells_get hcs
      obtain ⟨s, rfl, rfl, _⟩ := DataW.trod_string T.u9 ht
      have hz := hc' 0 (by omega)
      refine ⟨s, by simpa [Addr.add] using hz, ?_⟩
      have := hw (s.data.toList.length) (.inr (.inl (weightsAll_mem _ (.lit (.string s.data.toList)) (List.mem_map.2 ⟨_, List.mem_of_getElem? hy, rfl⟩) _ (by simp [DataW.weights]))))
      rw [size_toList] at this
      omega
    by_cases h0 : len = 0
    · subst h0
      exact ⟨[], _, rfl, some a, cap, rfl, by simp [mostLen], .inl rfl⟩
    · obtain ⟨s0, hz, _⟩ := each 0 (by omega)
      have ha : a.add 0 = a := by simp [Addr.add]
      rw [ha] at hz
      obtain ⟨ha2, hab⟩ := spot_of hz
      obtain ⟨l, hll, hcl⟩ := KCells_mk (w := w) (b := a.block) len a.off fun i hi => by
        obtain ⟨s, hc, hs⟩ := each i hi
        have e : a.add i = ⟨a.block, a.off + i, none⟩ := by
          rw [ha2]
          unfold Addr.add
          by_cases hi0 : i = 0 <;> simp [hi0]
        exact ⟨s, e ▸ hc, hs⟩
      refine ⟨l, _, rfl, some a, cap, by rw [hll], by omega, .inr ⟨a.block, a.off, by rw [← ha2], hab, hcl⟩⟩

theorem weightsEach_mem {ts : List TypeId} {ds : List (DataW H)} {j : Nat} {t : TypeId} {d : DataW H} (ht : ts[j]? = some t) (hd : ds[j]? = some d) {N : Nat} (h : ∀ n ∈ DataW.weightsEach P ts ds, n ≤ N) : ∀ n ∈ d.weights P t, n ≤ N :=
  fun n hn => h n (DataW.weights_mem_each ht hd n hn)

/-- A record. -/
theorem read_V (T : VT P) (fuel : Nat) : ∀ cs x, DataW.trod enc P w 0 sp held fuel 26 cs = some x → (∀ n ∈ x.1.weights P 26, n ≤ reachBytes) → ∃ v : V, VRep w (allB w) v (.agg cs.toArray) := by
  induction fuel using Nat.strongRecOn with
  | _ fuel ih =>
    intro cs x h hw
    obtain ⟨fs, hu, hfs⟩ := T.t26
    obtain ⟨xs, n, rfl, rfl, hl, hxl, hall⟩ := DataW.trod_struct hu h
    rw [T.c26] at hl
    have hsz : fs.size = 6 := by have := congrArg Array.size hfs; simpa using this
    have fld : ∀ i (hi : i < 6), (fs[i]'(by omega)).type = (#[((22 : TypeId), 0), (3, 1), (9, 2), (23, 3), (24, 4), (23, 5)][i]'(by simpa using hi)).1 ∧ (fs[i]'(by omega)).offset = (#[((22 : TypeId), 0), (3, 1), (9, 2), (23, 3), (24, 4), (23, 5)][i]'(by simpa using hi)).2 := by
      intro i hi
      have h1 : (fs.map (fun f => (f.type, f.offset)))[i]? = (#[((22 : TypeId), 0), (3, 1), (9, 2), (23, 3), (24, 4), (23, 5)] : Array (TypeId × Nat))[i]? := by rw [hfs]
      rw [Array.getElem?_eq_getElem (by simp; omega), Array.getElem?_eq_getElem (by simpa using hi)] at h1
      have h2 := Option.some.inj h1
      rw [Array.getElem_map] at h2
      rw [← h2]; exact ⟨rfl, rfl⟩
    simp only [DataW.weights, hu] at hw
    have hts : fs.toList.map (·.type) = [22, 3, 9, 23, 24, 23] := by
      have := congrArg (fun a : Array (TypeId × Nat) => a.toList.map (·.1)) hfs
      simpa [Function.comp_def] using this
    rw [hts] at hw
    obtain ⟨c0, c1, c2, c3, c4, c5, rfl⟩ : ∃ c0 c1 c2 c3 c4 c5, cs = [c0, c1, c2, c3, c4, c5] := by
      match cs, hl with
      | [c0, c1, c2, c3, c4, c5], _ => exact ⟨c0, c1, c2, c3, c4, c5, rfl⟩
    obtain ⟨x0, x1, x2, x3, x4, x5, rfl⟩ : ∃ x0 x1 x2 x3 x4 x5, xs = [x0, x1, x2, x3, x4, x5] := by
      rw [hsz] at hxl
      match xs, hxl with
      | [x0, x1, x2, x3, x4, x5], _ => exact ⟨x0, x1, x2, x3, x4, x5, rfl⟩
    have g : ∀ i (hi : i < 6), DataW.trod enc P w 0 sp held n (fs[i]'(by omega)).type ((([c0, c1, c2, c3, c4, c5] : List Value).drop (fs[i]'(by omega)).offset).take (P.cellsOf (fs[i]'(by omega)).type)) = ([x0, x1, x2, x3, x4, x5] : List _)[i]? :=
      fun i hi => hall i _ (by rw [Array.getElem?_eq_getElem (by omega)])
    have g0 := g 0 (by omega)
    have g1 := g 1 (by omega)
    have g2 := g 2 (by omega)
    have g3 := g 3 (by omega)
    have g4 := g 4 (by omega)
    have g5 := g 5 (by omega)
    rw [(fld 0 (by omega)).1, (fld 0 (by omega)).2] at g0
    rw [(fld 1 (by omega)).1, (fld 1 (by omega)).2] at g1
    rw [(fld 2 (by omega)).1, (fld 2 (by omega)).2] at g2
    rw [(fld 3 (by omega)).1, (fld 3 (by omega)).2] at g3
    rw [(fld 4 (by omega)).1, (fld 4 (by omega)).2] at g4
    rw [(fld 5 (by omega)).1, (fld 5 (by omega)).2] at g5
    simp [T.c22] at g0
    simp [T.c3] at g1
    simp [T.c9] at g2
    simp [T.c23] at g3
    simp [T.c24] at g4
    simp [T.c23] at g5
    obtain ⟨k, hk, _, wk⟩ := DataW.trod_int T.u22 g0
    obtain ⟨hh, hhe, _, wh⟩ := DataW.trod_int T.u3 g1
    obtain ⟨s, hs, hx2, _⟩ := DataW.trod_string T.u9 g2
    obtain ⟨l, sl, hsl, r3⟩ := read_slV T n (fun f hf => ih f (by omega)) _ _ g3 (weightsEach_mem (j := 3) rfl rfl hw)
    obtain ⟨ks, sk, hsk, r4⟩ := read_slK T n _ _ g4 (weightsEach_mem (j := 4) rfl rfl hw)
    obtain ⟨vs, sv, hsv, r5⟩ := read_slV T n (fun f hf => ih f (by omega)) _ _ g5 (weightsEach_mem (j := 5) rfl rfl hw)
    have hst := weightsEach_mem (j := 2) (d := x2.1) rfl rfl hw s.data.toList.length (by rw [hx2]; simp [DataW.weights])
    rw [size_toList] at hst
    have hre : reachBytes = mostLen := by decide
    simp only [List.cons.injEq, and_true] at hk hhe hs hsl hsk hsv
    subst hk hhe hs hsl hsk hsv
    refine ⟨.mk k hh s l ks vs, c3, c4, c5, rfl, by omega, ?_, ?_, r3, r4, r5⟩
    · simpa [Lit.wf, IntKind.min, IntKind.max, IntKind.signed, IntKind.bits] using wk
    · simpa [Lit.wf, IntKind.min, IntKind.max, IntKind.signed, IntKind.bits] using wh

/-- A slice of records. -/
theorem read_Vs (T : VT P) (fuel : Nat) (cs : List Value) (x : DataW H × List MemPlace) (h : DataW.trod enc P w 0 sp held fuel 23 cs = some x) (hw : ∀ n ∈ x.1.weights P 23, n ≤ reachBytes) :
    ∃ (l : List V) (s : Value), cs = [s] ∧ SlOf (allB w) l.length (fun b o => VCells w (allB w) b l o) s :=
  read_slV T fuel (fun f _ cs x => read_V T f cs x) cs x h hw
end
#print axioms read_V
end Go.Gj
