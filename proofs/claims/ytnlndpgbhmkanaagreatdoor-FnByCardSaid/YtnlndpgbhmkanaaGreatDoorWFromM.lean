/-
  impl.mapFromGo.
-/
import Derived.Test.YtnlndpgbhmkanaaGreatDoorMInvL
import Derived.Test.YtnlndpgbhmkanaaGreatDoorRegT
import Derived.Deep.RegionHeld3
namespace Go.Gj
set_option linter.unusedSimpArgs false
set_option linter.unusedVariables false
set_option linter.unnecessarySimpa false
open Go Go.RowKit Go.Proofs Go.Sort

theorem AVals.at {w : World} {S : Nat → Prop} {es : Array MapEntry} : ∀ (ks : List ByteArray) (vs : List J), AVals w S es ks vs → ∀ i (hi : i < ks.length) (hv : i < vs.length), ∃ e ∈ es.toList, e.key = .string ks[i] ∧ ARep w S vs[i] e.val
  | _, [], _, _, _, hv => by simp at hv
  | _, _ :: _, ⟨_, _, rfl, h, _⟩, 0, _, _ => h
  | _, _ :: vs, ⟨_, ks', rfl, _, h⟩, i + 1, hi, hv => by simpa using AVals.at ks' vs h i (by simpa using hi) (by simpa using hv)

theorem size_drew (w : World) : w.drew.heap.size = w.heap.size := rfl
theorem heap_new' (w : World) (o : Obj) {B : Nat} (h : B = w.heap.size) : (w.alloc o).heap[B]? = some o := h ▸ heap_alloc_new w o
theorem heap_old' (w : World) (o : Obj) {B : Nat} (h : B < w.heap.size) {o' : Obj} (h' : w.heap[B]? = some o') : (w.alloc o).heap[B]? = some o' := (Below.heap_alloc w o B h).trans h'

theorem heap_drew {w : World} {B : Nat} {o : Obj} (h : w.heap[B]? = some o) : w.drew.heap[B]? = some o := h
theorem keepL {x : World} {n b : Nat} {kv v : Value} {k h k' h' : Int} {t t' : ByteArray} {s0 s1 s2 s3 : Value} (h1 : x.heap[n]? = some (.cells #[.int .i64 k, .int .i64 h, .string t, s0, kv, v] 26)) (h2 : x.heap[b]? = some (.cells #[.int .i64 k', .int .i64 h', .string t', s1, s2, s3] 26)) :
    x.cell? ⟨n, 4, none⟩ = some kv ∧ x.cell? ⟨n, 5, none⟩ = some v ∧ x.frozen? ⟨n, 4, none⟩ = false ∧ x.frozen? ⟨n, 5, none⟩ = false ∧
      x.cell? ⟨b, 0, none⟩ = some (.int .i64 k') ∧ x.cell? ⟨b, 1, none⟩ = some (.int .i64 h') ∧ x.cell? ⟨b, 2, none⟩ = some (.string t') ∧ x.cell? ⟨b, 3, none⟩ = some s1 ∧ x.cell? ⟨b, 4, none⟩ = some s2 ∧ x.cell? ⟨b, 5, none⟩ = some s3 := by
  simp [World.cell?, World.frozen?, h1, h2]

theorem keepL2 {x : World} {b : Nat} {k' h' : Int} {t' : ByteArray} {s1 s2 s3 : Value} (h2 : x.heap[b]? = some (.cells #[.int .i64 k', .int .i64 h', .string t', s1, s2, s3] 26)) :
    x.cell? ⟨b, 0, none⟩ = some (.int .i64 k') ∧ x.cell? ⟨b, 1, none⟩ = some (.int .i64 h') ∧ x.cell? ⟨b, 2, none⟩ = some (.string t') ∧ x.cell? ⟨b, 3, none⟩ = some s1 ∧ x.cell? ⟨b, 4, none⟩ = some s2 ∧ x.cell? ⟨b, 5, none⟩ = some s3 := by
  simp [World.cell?, h2]

theorem info9 : (Tryz.prog.info? 9).map (fun i => (i.zero, i.size, i.bytes)) = some (some (.string ⟨#[]⟩), 1, 16) := by kernel_rfl

theorem MInv.start (w w' : World) (ks : List ByteArray) (vs : List J) (C : Obj) (hb : Below (w.heap.size + 1 + 1 + 1) (((w.alloc (.cells #[.int .i64 0, .int .i64 0, .string ⟨#[]⟩, .slice none 0 0, .slice none 0 0, .slice none 0 0] 26)).alloc (.cells #[.int .i64 6, .int .i64 0, .string ⟨#[]⟩, .slice none 0 0, .slice none 0 0, .slice none 0 0] 26)).alloc C) w') :
    MInv w w'.heap.size w' ks vs 0 (.slice none 0 0) (.slice none 0 0) [] := by
  have h1 := Box.new w 0 0 ⟨#[]⟩ (.slice none 0 0) (.slice none 0 0) (.slice none 0 0)
  have h2 := Box.new (w.alloc (.cells #[.int .i64 0, .int .i64 0, .string ⟨#[]⟩, .slice none 0 0, .slice none 0 0, .slice none 0 0] 26)) 6 0 ⟨#[]⟩ (.slice none 0 0) (.slice none 0 0) (.slice none 0 0)
  rw [size_alloc w] at h2
  have hs := hb.size
  simp only [size_alloc] at hs
  refine ⟨(below3 w _ _ C).trans (hb.mono (by omega)), ?_, ?_, World.ownsRow_nil _ _ _ _, World.ownsRow_nil _ _ _ _, fun b h => by simp [Value.ownBlock] at h, rfl, Nat.le_refl _, by omega⟩
  · exact (hb.block _ (by omega)).trans ((Below.heap_alloc _ _ _ (by simp only [size_alloc]; omega)).trans ((Below.heap_alloc _ _ _ (by rw [size_alloc]; omega)).trans h1))
  · exact (hb.block _ (by omega)).trans ((Below.heap_alloc _ _ _ (by simp only [size_alloc]; omega)).trans h2)

set_option maxHeartbeats 4000000 in
set_option maxRecDepth 100000 in
theorem mapFromGo_ok (ks : List ByteArray) (vs : List J) (hx : ∀ y ∈ vs, y.sz ∧ FromGoOk y) (hkv : ks.length = vs.length) (hlen : ks.length ≤ lim) (hri : rises ks) (w : World) (S : Nat → Prop) (hS : ∀ b, S b → b < w.heap.size)
    (r : Nat) (es : Array MapEntry) (clk : Nat) (hr : S r) (hh : w.heap[r]? = some (.map es clk)) (hst : MapKept.Stamped es clk) (hp : (es.toList.map (·.key)).Perm (ks.map Value.string)) (hks : ∀ k ∈ ks, k.size ≤ mostLen) (ha : AVals w S es ks vs) :
    Calls Tryz.prog 101 #[.map (some r)] w fun e w' => ∃ v1 v2, e = .returned (.tuple #[.agg #[.int .i64 6, .int .i64 0, .string ⟨#[]⟩, .slice none 0 0, v1, v2], .bool true]) ∧ Below w.heap.size w w' ∧ KSl w' (since w.heap.size w') ks v1 ∧ JSl w' (since w.heap.size w') vs v2 := by
  have hlen' := hlen
  unfold lim at hlen
  obtain ⟨i0, hi, hz0, hz1, hz2⟩ := info_parts info26
  obtain ⟨i9, hi9, hy0, hy1, hy2⟩ := info_parts info9
  have HI := Lib.hid (And.intro hi (And.intro hz0 (And.intro hz1 hz2)))
  have HI9 := Lib.hid (And.intro hi9 (And.intro hy0 (And.intro hy1 hy2)))
  clear hi hz0 hz1 hz2 hi9 hy0 hy1 hy2
  have hrlt := hS r hr
  have hb2 := below2 w (.cells #[.int .i64 0, .int .i64 0, .string ⟨#[]⟩, .slice none 0 0, .slice none 0 0, .slice none 0 0] 26) (.cells #[.int .i64 6, .int .i64 0, .string ⟨#[]⟩, .slice none 0 0, .slice none 0 0, .slice none 0 0] 26)
  obtain ⟨D, hown, hperm, hsz⟩ := map_owned ((hb2.block r hrlt).trans hh) hst hp hks hlen'
  have hSort := Tryz.slices_Sorted_keys_148_149 r ks.length D R0 _ hown (by rw [hsz]; unfold maxLen; omega) (by rw [hsz]; omega)
  have hK := (callsIn_wide.1 (Tryz.maps_Keys_149 (some r) ((w.alloc (.cells #[.int .i64 0, .int .i64 0, .string ⟨#[]⟩, .slice none 0 0, .slice none 0 0, .slice none 0 0] 26)).alloc (.cells #[.int .i64 6, .int .i64 0, .string ⟨#[]⟩, .slice none 0 0, .slice none 0 0, .slice none 0 0] 26))))
  have hSo := callsIn_wide.1 hSort
  simp only [size_alloc] at hK hSo
  have HK := Lib.hid hK
  have HSo := Lib.hid hSo
  clear hK hSo
  have HPm := Lib.hid hperm
  have HKV := Lib.hid hkv
  clear hSort hperm hsz hown hb2 hkv
  go_enter Tryz.func101, Tryz.ntmps101
  go_wp2_with (first
    | (go_at_call 149; refine HK.out.mono ?_; rintro e w' ⟨rfl, rfl⟩)
    | (go_at_call 148; refine HSo.out.mono ?_; rintro e w' ⟨sv, ss, rfl, hss, hrow, hnil, hbs⟩; rw [sorted_keys hri (hss.trans HPm.out), show ss.length = ks.length by rw [(hss.trans HPm.out).length_eq, List.length_map]] at hrow; obtain ⟨sa, sc, rfl⟩ := own_shape hrow; clear hnil hss))
  have HM := Lib.hid (MInv.start w w' ks vs _ hbs)
  have hlow : w.heap.size + 1 + 1 + 1 ≤ w'.heap.size := by have := hbs.size; simp only [size_alloc] at this; omega
  have HBS := Lib.hid hbs
  have HROW := Lib.hid hrow
  clear hbs hrow
  go_loopw [14] (fun i wr => ∃ (k : Nat) (kv v : Value) (xs : List Value), k ≤ ks.length ∧ i = .int .i64 k ∧ (∀ b, w.heap.size + 2 ≤ b → b < w'.heap.size → wr.heap[b]? = w'.heap[b]?) ∧ MInv w w'.heap.size wr ks vs k kv v xs) (fun i _ => ks.length - (RowKit.intOf i).toNat)
  case atStart => exact ⟨0, _, _, _, Nat.zero_le _, rfl, fun _ _ _ => rfl, HM.out⟩
  case round =>
    obtain ⟨k, kv, v, xs, hk1, rfl, hbw, hinv⟩ := hrel
    obtain ⟨ka, kc, rfl⟩ := own_shape hinv.kown
    obtain ⟨va, vc, rfl⟩ := own_shape hinv.own
    by_cases hlt : k < ks.length
    · have hltv : k < vs.length := by have := HKV.out; omega
      obtain ⟨sb, scap, scur, hse, hsb1, hsb2, hsb3, hsb4, hsb5, hsb6⟩ := HROW.out.2.resolve_left (by rintro ⟨_, h0⟩; omega)
      obtain ⟨rfl, rfl⟩ : sa = some ⟨sb, 0, none⟩ ∧ sc = scap := by simpa using hse
      have hsl : sb < w'.heap.size := (Array.getElem?_eq_some_iff.1 hsb2).1
      have hkc : wr.cell? ⟨sb, k, none⟩ = some (.string ks[k]) := by
        rw [World.cell?_of_block (a := ⟨sb, k, none⟩) (hbw sb (by (try simp only [size_alloc] at hsb1); omega) hsl)]
        have := HROW.out.cells (g := sb) rfl k (.string ks[k]) (by simp [hlt])
        rw [addr_add] at this; exact this
      obtain ⟨en, hen, hek, her⟩ := AVals.at ks vs ha k hlt hltv
      have hmp : wr.heap[r]? = some (.map es clk) := (hinv.bel.block r hrlt).trans hh
      have hlook := run_lookup_some ks[k] en hmp (fun x hx => by
        have := hp.mem_iff.1 (List.mem_map.2 ⟨x, hx, rfl⟩)
        obtain ⟨k, _, e⟩ := List.mem_map.1 this
        exact ⟨k, e.symm⟩) hst.2.2 hen hek false
      have HC := Lib.hid ((hx vs[k] (List.getElem_mem hltv)).2 wr S en.val (hx vs[k] (List.getElem_mem hltv)).1 (fun b hb => Nat.lt_of_lt_of_le (hS b hb) hinv.bel.size) (her.below hinv.bel hS))
      have HV := Lib.hid hinv
      have HBW := Lib.hid hbw
      clear hinv hbw hse hsb1 hsb2 hsb3 hsb4 hsb5 hsb6 her hen hek hmp
      generalize hev : en.val = ev at *
      go_upto_region 5 with fail
      go_upto_region 8 with (go_at_call 77; refine HC.out.mono ?_; rintro e w9 ⟨c0, c1, c2, c3, c4, c5, rfl, hb', hjr⟩; obtain ⟨rk, rh, rt, a1, n1, m1, a2, n2, m2, a3, n3, m3, rfl, rfl, rfl, rfl, rfl, rfl⟩ := hjr.shape6)
      have hsz1 := HV.out.size
      have hlw := HV.out.low
      have hszb := hb'.size
      have HV2 := Lib.hid (HV.out.over (hb'.alloc hb'.size (.cells #[.int .i64 rk, .int .i64 rh, .string rt, .slice a1 n1 m1, .slice a2 n2 m2, .slice a3 n3 m3] 26)))
      have HWR : Hid (∀ b, b < wr.heap.size → (w9.alloc (.cells #[.int .i64 rk, .int .i64 rh, .string rt, .slice a1 n1 m1, .slice a2 n2 m2, .slice a3 n3 m3] 26)).heap[b]? = wr.heap[b]?) := Lib.hid fun b hb => (hb'.alloc hb'.size (.cells #[.int .i64 rk, .int .i64 rh, .string rt, .slice a1 n1 m1, .slice a2 n2 m2, .slice a3 n3 m3] 26)).block b hb
      have HJ := Lib.hid (hjr.keep (w' := w9.alloc (.cells #[.int .i64 rk, .int .i64 rh, .string rt, .slice a1 n1 m1, .slice a2 n2 m2, .slice a3 n3 m3] 26)) (S' := beside2 w'.heap.size (.slice ka k kc) (.slice va k vc) (w9.alloc (.cells #[.int .i64 rk, .int .i64 rh, .string rt, .slice a1 n1 m1, .slice a2 n2 m2, .slice a3 n3 m3] 26)))
        (.of_below (below1 w9 (.cells #[.int .i64 rk, .int .i64 rh, .string rt, .slice a1 n1 m1, .slice a2 n2 m2, .slice a3 n3 m3] 26)) fun _ h => h.2) (fun b hb => ⟨Nat.le_trans HV.out.size hb.1, Nat.lt_of_lt_of_le hb.2 (below1 w9 (.cells #[.int .i64 rk, .int .i64 rh, .string rt, .slice a1 n1 m1, .slice a2 n2 m2, .slice a3 n3 m3] 26)).size, fun e => by have := (HV.out.kown.lt b e).2; have := hb.1; omega, fun e => by have := (HV.out.own.lt b e).2; have := hb.1; omega⟩))
      obtain ⟨z0, z1, z2, z3, z4, z5⟩ := HV2.out.box.c
      have zf := HV2.out.box.f
      have hbr := Box.new w9 rk rh rt (.slice a1 n1 m1) (.slice a2 n2 m2) (.slice a3 n3 m3)
      obtain ⟨r0, r1, r2, r3, r4, r5⟩ := hbr.c
      have HNE : Hid ((Value.slice va k vc).ownBlock = none ∨ (Value.slice va k vc).ownBlock ≠ (Value.slice ka k kc).ownBlock) := by
        cases hvo : (Value.slice va k vc).ownBlock with
        | none => exact .inl rfl
        | some b => exact .inr fun e => HV2.out.apart b e.symm hvo
      have HB1 : Hid ((w9.alloc (.cells #[.int .i64 rk, .int .i64 rh, .string rt, .slice a1 n1 m1, .slice a2 n2 m2, .slice a3 n3 m3] 26)).heap[w.heap.size + 1]? = some (.cells #[.int .i64 6, .int .i64 0, .string ⟨#[]⟩, .slice none 0 0, .slice ka k kc, .slice va k vc] 26)) := Lib.hid HV2.out.box
      have HB2 : Hid ((w9.alloc (.cells #[.int .i64 rk, .int .i64 rh, .string rt, .slice a1 n1 m1, .slice a2 n2 m2, .slice a3 n3 m3] 26)).heap[w9.heap.size]? = some (.cells #[.int .i64 rk, .int .i64 rh, .string rt, .slice a1 n1 m1, .slice a2 n2 m2, .slice a3 n3 m3] 26)) := Lib.hid hbr
      have HN1 : Hid (some (w.heap.size + 1) ≠ (Value.slice ka k kc).ownBlock ∧ some (w.heap.size + 1) ≠ (Value.slice va k vc).ownBlock ∧ some w9.heap.size ≠ (Value.slice ka k kc).ownBlock ∧ some w9.heap.size ≠ (Value.slice va k vc).ownBlock) := by
        refine Lib.hid ⟨fun e => ?_, fun e => ?_, fun e => ?_, fun e => ?_⟩
        · have := (HV.out.kown.lt _ e.symm).1; omega
        · have := (HV.out.own.lt _ e.symm).1; omega
        · have := (HV.out.kown.lt _ e.symm).2; omega
        · have := (HV.out.own.lt _ e.symm).2; omega
      have HNK : Hid (∀ B, w9.heap.size ≤ B → some B ≠ (Value.slice ka k kc).ownBlock) := Lib.hid fun B hB e => by
        have := (HV.out.kown.lt _ e.symm).2; omega
      clear hjr hb' hbr
      have hlt0 : w.heap.size + 1 < (w9.alloc (.cells #[.int .i64 rk, .int .i64 rh, .string rt, .slice a1 n1 m1, .slice a2 n2 m2, .slice a3 n3 m3] 26)).heap.size := by rw [size_alloc]; omega
      have zA : ∀ (o : Obj) (q : Nat), ((w9.alloc (.cells #[.int .i64 rk, .int .i64 rh, .string rt, .slice a1 n1 m1, .slice a2 n2 m2, .slice a3 n3 m3] 26)).alloc o).cell? ⟨w.heap.size + 1, q, none⟩ = (w9.alloc (.cells #[.int .i64 rk, .int .i64 rh, .string rt, .slice a1 n1 m1, .slice a2 n2 m2, .slice a3 n3 m3] 26)).cell? ⟨w.heap.size + 1, q, none⟩ := fun o q => World.cell?_of_block (Below.heap_alloc _ o _ hlt0)
      have zAA : ∀ (o o' : Obj) (q : Nat), (((w9.alloc (.cells #[.int .i64 rk, .int .i64 rh, .string rt, .slice a1 n1 m1, .slice a2 n2 m2, .slice a3 n3 m3] 26)).alloc o).alloc o').cell? ⟨w.heap.size + 1, q, none⟩ = (w9.alloc (.cells #[.int .i64 rk, .int .i64 rh, .string rt, .slice a1 n1 m1, .slice a2 n2 m2, .slice a3 n3 m3] 26)).cell? ⟨w.heap.size + 1, q, none⟩ := fun o o' q => (World.cell?_of_block (Below.heap_alloc _ o' _ (by rw [size_alloc]; exact Nat.lt_succ_of_lt hlt0))).trans (zA o q)
      have zA4 := fun o => (zA o 4).trans z4
      have zA5 := fun o => (zA o 5).trans z5
      have zAA4 := fun o o' => (zAA o o' 4).trans z4
      have zAA5 := fun o o' => (zAA o o' 5).trans z5
      clear zA zAA
      have hn0 : w.heap.size + 1 ≠ w9.heap.size := by omega
      have hn1 : w.heap.size ≠ w9.heap.size := by omega
      have hn2 : w.heap.size ≠ w9.heap.size + 1 := by omega
      have hn3 : w.heap.size + 1 ≠ w9.heap.size + 1 := by omega
      have hn4 : w.heap.size + 1 ≠ w9.heap.size + 1 + 1 := by omega
      refine wp_region_S (fun i => i == 11 || i == 13) (fun x => x.heap[w.heap.size + 1]? = some (.cells #[.int .i64 6, .int .i64 0, .string ⟨#[]⟩, .slice none 0 0, .slice ka k kc, .slice va k vc] 26)) (fun x => x.heap[w9.heap.size]? = some (.cells #[.int .i64 rk, .int .i64 rh, .string rt, .slice a1 n1 m1, .slice a2 n2 m2, .slice a3 n3 m3] 26)) (by kernel_rfl) ?_
      refine wpAnyS_takeT 0 ⟨some 28, .fieldAddr 26 (.tmp 4) 4, 0, _, _, none⟩ (v := ?_) rfl (by kernel_rfl) (by kernel_rfl) (by kernel_rfl) (fun _ _ _ h => h) (Or.inl ⟨by rfl, ?_⟩) (by repeat (first | with_reducible exact HB2.out | with_reducible refine heap_drew ?_ | with_reducible refine heap_old' _ _ (by (try simp only [size_alloc, size_drew]); omega) ?_ | with_reducible refine (hgrow1.block _ (by (try simp only [size_alloc, size_drew]); omega) HN1.out.2.2.1).trans ?_ | with_reducible refine (hgrow2.block _ (by (try simp only [size_alloc, size_drew]); omega) HN1.out.2.2.2).trans ?_ | with_reducible refine (Below.heap_setCell _ _ _ _ (by show w9.heap.size ≠ w.heap.size + 1; omega)).trans ?_)) ?_
      rotate_left
      · (intro x hx; clear hx; go_simp; try with_reducible rfl)
      try simp only [Act.put, List.setIfInBounds_toArray, List.set_cons_zero, List.set_cons_succ]
      refine wpAnyS_takeS 1 ⟨some 29, .load 24 (.tmp 28), 24, _, _, none⟩ (v := ?_) rfl (by kernel_rfl) (by kernel_rfl) (by kernel_rfl) (by kernel_rfl) (fun _ _ _ h => h) (Or.inl ⟨by rfl, ?_⟩) ⟨(by repeat (first | with_reducible exact HB2.out | with_reducible refine heap_drew ?_ | with_reducible refine heap_old' _ _ (by (try simp only [size_alloc, size_drew]); omega) ?_ | with_reducible refine (hgrow1.block _ (by (try simp only [size_alloc, size_drew]); omega) HN1.out.2.2.1).trans ?_ | with_reducible refine (hgrow2.block _ (by (try simp only [size_alloc, size_drew]); omega) HN1.out.2.2.2).trans ?_ | with_reducible refine (Below.heap_setCell _ _ _ _ (by show w9.heap.size ≠ w.heap.size + 1; omega)).trans ?_)), (by repeat (first | with_reducible exact HB1.out | with_reducible refine heap_drew ?_ | with_reducible refine heap_old' _ _ (by (try simp only [size_alloc, size_drew]); omega) ?_ | with_reducible refine (hgrow1.block _ (by (try simp only [size_alloc, size_drew]); omega) HN1.out.1).trans ?_ | with_reducible refine (hgrow2.block _ (by (try simp only [size_alloc, size_drew]); omega) HN1.out.2.1).trans ?_ | with_reducible refine (Below.heap_setCell _ _ _ _ (by show w9.heap.size ≠ w.heap.size + 1; omega)).trans ?_))⟩ ?_
      rotate_left
      · (intro x hx; obtain ⟨e0, e1, e2, e3, e4, e5⟩ := keepL2 hx.2; clear hx; go_simp; try with_reducible rfl)
      try simp only [Act.put, List.setIfInBounds_toArray, List.set_cons_zero, List.set_cons_succ]
      refine wpAnyS_takeT 2 ⟨some 30, .move (.tmp 6), 9, _, _, none⟩ (v := ?_) rfl (by kernel_rfl) (by kernel_rfl) (by kernel_rfl) (fun _ _ _ h => h) (Or.inl ⟨by rfl, ?_⟩) (by repeat (first | with_reducible exact HB2.out | with_reducible refine heap_drew ?_ | with_reducible refine heap_old' _ _ (by (try simp only [size_alloc, size_drew]); omega) ?_ | with_reducible refine (hgrow1.block _ (by (try simp only [size_alloc, size_drew]); omega) HN1.out.2.2.1).trans ?_ | with_reducible refine (hgrow2.block _ (by (try simp only [size_alloc, size_drew]); omega) HN1.out.2.2.2).trans ?_ | with_reducible refine (Below.heap_setCell _ _ _ _ (by show w9.heap.size ≠ w.heap.size + 1; omega)).trans ?_)) ?_
      rotate_left
      · (intro x hx; clear hx; go_simp; try with_reducible rfl)
      try simp only [Act.put, List.setIfInBounds_toArray, List.set_cons_zero, List.set_cons_succ]
      refine wpAnyS_takeT 5 ⟨some 33, .fieldAddr 26 (.tmp 4) 5, 0, _, _, none⟩ (v := ?_) rfl (by kernel_rfl) (by kernel_rfl) (by kernel_rfl) (fun _ _ _ h => h) (Or.inl ⟨by rfl, ?_⟩) (by repeat (first | with_reducible exact HB2.out | with_reducible refine heap_drew ?_ | with_reducible refine heap_old' _ _ (by (try simp only [size_alloc, size_drew]); omega) ?_ | with_reducible refine (hgrow1.block _ (by (try simp only [size_alloc, size_drew]); omega) HN1.out.2.2.1).trans ?_ | with_reducible refine (hgrow2.block _ (by (try simp only [size_alloc, size_drew]); omega) HN1.out.2.2.2).trans ?_ | with_reducible refine (Below.heap_setCell _ _ _ _ (by show w9.heap.size ≠ w.heap.size + 1; omega)).trans ?_)) ?_
      rotate_left
      · (intro x hx; clear hx; go_simp; try with_reducible rfl)
      try simp only [Act.put, List.setIfInBounds_toArray, List.set_cons_zero, List.set_cons_succ]
      refine wpAnyS_takeS 6 ⟨some 34, .load 23 (.tmp 33), 23, _, _, none⟩ (v := ?_) rfl (by kernel_rfl) (by kernel_rfl) (by kernel_rfl) (by kernel_rfl) (fun _ _ _ h => h) (Or.inl ⟨by rfl, ?_⟩) ⟨(by repeat (first | with_reducible exact HB2.out | with_reducible refine heap_drew ?_ | with_reducible refine heap_old' _ _ (by (try simp only [size_alloc, size_drew]); omega) ?_ | with_reducible refine (hgrow1.block _ (by (try simp only [size_alloc, size_drew]); omega) HN1.out.2.2.1).trans ?_ | with_reducible refine (hgrow2.block _ (by (try simp only [size_alloc, size_drew]); omega) HN1.out.2.2.2).trans ?_ | with_reducible refine (Below.heap_setCell _ _ _ _ (by show w9.heap.size ≠ w.heap.size + 1; omega)).trans ?_)), (by repeat (first | with_reducible exact HB1.out | with_reducible refine heap_drew ?_ | with_reducible refine heap_old' _ _ (by (try simp only [size_alloc, size_drew]); omega) ?_ | with_reducible refine (hgrow1.block _ (by (try simp only [size_alloc, size_drew]); omega) HN1.out.1).trans ?_ | with_reducible refine (hgrow2.block _ (by (try simp only [size_alloc, size_drew]); omega) HN1.out.2.1).trans ?_ | with_reducible refine (Below.heap_setCell _ _ _ _ (by show w9.heap.size ≠ w.heap.size + 1; omega)).trans ?_))⟩ ?_
      rotate_left
      · (intro x hx; obtain ⟨e0, e1, e2, e3, e4, e5⟩ := keepL2 hx.2; clear hx; go_simp; try with_reducible rfl)
      try simp only [Act.put, List.setIfInBounds_toArray, List.set_cons_zero, List.set_cons_succ]
      refine wpAnyS_takeT 7 ⟨some 35, .load 26 (.tmp 7), 26, _, _, none⟩ (v := ?_) rfl (by kernel_rfl) (by kernel_rfl) (by kernel_rfl) (fun _ _ _ h => h) (Or.inl ⟨by rfl, ?_⟩) (by repeat (first | with_reducible exact HB2.out | with_reducible refine heap_drew ?_ | with_reducible refine heap_old' _ _ (by (try simp only [size_alloc, size_drew]); omega) ?_ | with_reducible refine (hgrow1.block _ (by (try simp only [size_alloc, size_drew]); omega) HN1.out.2.2.1).trans ?_ | with_reducible refine (hgrow2.block _ (by (try simp only [size_alloc, size_drew]); omega) HN1.out.2.2.2).trans ?_ | with_reducible refine (Below.heap_setCell _ _ _ _ (by show w9.heap.size ≠ w.heap.size + 1; omega)).trans ?_)) ?_
      rotate_left
      · (intro x hx; obtain ⟨e0, e1, e2, e3, e4, e5⟩ := keepL2 hx; clear hx; go_simp; try with_reducible rfl)
      try simp only [Act.put, List.setIfInBounds_toArray, List.set_cons_zero, List.set_cons_succ]
      refine wpAnyS_ready [3, 8] (by kernel_rfl) (by simp) ?_
      refine AllReadyS.cons ⟨some 31, .buildSlice 24 1 #[(0, .tmp 30)], 24, _, _, none⟩ rfl (fun K hK => ?_) ?_
      · go_simp
        refine hK _ _ (by repeat (first | with_reducible exact HB2.out | with_reducible refine heap_drew ?_ | with_reducible refine heap_old' _ _ (by (try simp only [size_alloc, size_drew]); omega) ?_ | with_reducible refine (hgrow1.block _ (by (try simp only [size_alloc, size_drew]); omega) HN1.out.2.2.1).trans ?_ | with_reducible refine (hgrow2.block _ (by (try simp only [size_alloc, size_drew]); omega) HN1.out.2.2.2).trans ?_ | with_reducible refine (Below.heap_setCell _ _ _ _ (by show w9.heap.size ≠ w.heap.size + 1; omega)).trans ?_)) (fun _ _ => (by repeat (first | with_reducible exact HB1.out | with_reducible refine heap_drew ?_ | with_reducible refine heap_old' _ _ (by (try simp only [size_alloc, size_drew]); omega) ?_ | with_reducible refine (hgrow1.block _ (by (try simp only [size_alloc, size_drew]); omega) HN1.out.1).trans ?_ | with_reducible refine (hgrow2.block _ (by (try simp only [size_alloc, size_drew]); omega) HN1.out.2.1).trans ?_ | with_reducible refine (Below.heap_setCell _ _ _ _ (by show w9.heap.size ≠ w.heap.size + 1; omega)).trans ?_))) ?_
        clear hK K
        try simp only [Act.put, List.setIfInBounds_toArray, List.set_cons_zero, List.set_cons_succ]
        refine wpAnyS_ready [4, 8] (by kernel_rfl) (by simp) ?_
        refine AllReadyS.cons ⟨some 32, .call { callee := .builtin .append, args := #[.tmp 29, .tmp 31], argTypes := #[24, 24] }, 24, _, _, none⟩ rfl (fun K hK => ?_) ?_
        · refine step_append_lies _ (by rfl) _ _ 24 (by rfl) w'.heap.size 9 i9 (.string ⟨#[]⟩) 1 16 Tryz.underlying24 HI9.out.1 HI9.out.2.1 HI9.out.2.2.1 HI9.out.2.2.2 rfl (by omega) (.slice ka k kc) k ((ks.take k).map Value.string) (by rfl) (by repeat (first | with_reducible exact HV2.out.kown | with_reducible refine World.ownsRow.drew ?_ | with_reducible refine World.ownsRow.alloc ?_ _)) ⟨w9.heap.size + 1, 0, none⟩ 1 1 [.string ks[k]] (by rfl) (by rfl) (World.news_of_block (cs := #[.string ks[k]]) (t := 9) (fr := (0, 0)) (heap_new' _ _ (by (try simp only [size_alloc, size_drew])))) (by simp [Value.oneCell']) (by omega) (by unfold maxLen; omega) (by omega) (by have := HV2.out.size; (try simp only [size_alloc, size_drew] at this ⊢); omega) _ rfl ?_; intro g cap w3 hown1 hgrow1 hat1 hlt1; have hs3 := hgrow1.size; (try simp only [size_alloc, size_drew] at hs3); have q3 : ∀ q, w3.cell? ⟨w.heap.size + 1, q, none⟩ = (w9.alloc (.cells #[.int .i64 rk, .int .i64 rh, .string rt, .slice a1 n1 m1, .slice a2 n2 m2, .slice a3 n3 m3] 26)).cell? ⟨w.heap.size + 1, q, none⟩ := fun q => World.cell?_of_block ((hgrow1.block _ (by (try simp only [size_alloc, size_drew]); omega) HN1.out.1).trans ((by repeat (first | with_reducible exact HB1.out | with_reducible refine heap_drew ?_ | with_reducible refine heap_old' _ _ (by (try simp only [size_alloc, size_drew]); omega) ?_) : _ = _).trans HB1.out.symm)); have q34 := (q3 4).trans z4; have q35 := (q3 5).trans z5; have q3A := fun o => (World.cell?_of_block (a := ⟨w.heap.size + 1, 5, none⟩) (Below.heap_alloc w3 o (w.heap.size + 1) (by omega))).trans q35
          refine hK _ _ (by repeat (first | with_reducible exact HB2.out | with_reducible refine heap_drew ?_ | with_reducible refine heap_old' _ _ (by (try simp only [size_alloc, size_drew]); omega) ?_ | with_reducible refine (hgrow1.block _ (by (try simp only [size_alloc, size_drew]); omega) HN1.out.2.2.1).trans ?_ | with_reducible refine (hgrow2.block _ (by (try simp only [size_alloc, size_drew]); omega) HN1.out.2.2.2).trans ?_ | with_reducible refine (Below.heap_setCell _ _ _ _ (by show w9.heap.size ≠ w.heap.size + 1; omega)).trans ?_)) (fun _ _ => (by repeat (first | with_reducible exact HB1.out | with_reducible refine heap_drew ?_ | with_reducible refine heap_old' _ _ (by (try simp only [size_alloc, size_drew]); omega) ?_ | with_reducible refine (hgrow1.block _ (by (try simp only [size_alloc, size_drew]); omega) HN1.out.1).trans ?_ | with_reducible refine (hgrow2.block _ (by (try simp only [size_alloc, size_drew]); omega) HN1.out.2.1).trans ?_ | with_reducible refine (Below.heap_setCell _ _ _ _ (by show w9.heap.size ≠ w.heap.size + 1; omega)).trans ?_))) ?_
          clear hK K
          try simp only [Act.put, List.setIfInBounds_toArray, List.set_cons_zero, List.set_cons_succ]
          refine wpAnyS_takeT 10 ⟨some 38, .fieldAddr 26 (.tmp 4) 4, 0, _, _, none⟩ (v := ?_) rfl (by kernel_rfl) (by kernel_rfl) (by kernel_rfl) (fun _ _ _ h => h) (Or.inl ⟨by rfl, ?_⟩) (by repeat (first | with_reducible exact HB2.out | with_reducible refine heap_drew ?_ | with_reducible refine heap_old' _ _ (by (try simp only [size_alloc, size_drew]); omega) ?_ | with_reducible refine (hgrow1.block _ (by (try simp only [size_alloc, size_drew]); omega) HN1.out.2.2.1).trans ?_ | with_reducible refine (hgrow2.block _ (by (try simp only [size_alloc, size_drew]); omega) HN1.out.2.2.2).trans ?_ | with_reducible refine (Below.heap_setCell _ _ _ _ (by show w9.heap.size ≠ w.heap.size + 1; omega)).trans ?_)) ?_
          rotate_left
          · (intro x hx; clear hx; go_simp; try with_reducible rfl)
          try simp only [Act.put, List.setIfInBounds_toArray, List.set_cons_zero, List.set_cons_succ]
          refine wpAnyS_ready [8] (by kernel_rfl) (by simp) ?_
          refine AllReadyS.cons ⟨some 36, .buildSlice 23 1 #[(0, .tmp 35)], 23, _, _, none⟩ rfl (fun K hK => ?_) AllReadyS.nil
          go_simp
          refine hK _ _ (by repeat (first | with_reducible exact HB2.out | with_reducible refine heap_drew ?_ | with_reducible refine heap_old' _ _ (by (try simp only [size_alloc, size_drew]); omega) ?_ | with_reducible refine (hgrow1.block _ (by (try simp only [size_alloc, size_drew]); omega) HN1.out.2.2.1).trans ?_ | with_reducible refine (hgrow2.block _ (by (try simp only [size_alloc, size_drew]); omega) HN1.out.2.2.2).trans ?_ | with_reducible refine (Below.heap_setCell _ _ _ _ (by show w9.heap.size ≠ w.heap.size + 1; omega)).trans ?_)) (fun _ _ => (by repeat (first | with_reducible exact HB1.out | with_reducible refine heap_drew ?_ | with_reducible refine heap_old' _ _ (by (try simp only [size_alloc, size_drew]); omega) ?_ | with_reducible refine (hgrow1.block _ (by (try simp only [size_alloc, size_drew]); omega) HN1.out.1).trans ?_ | with_reducible refine (hgrow2.block _ (by (try simp only [size_alloc, size_drew]); omega) HN1.out.2.1).trans ?_ | with_reducible refine (Below.heap_setCell _ _ _ _ (by show w9.heap.size ≠ w.heap.size + 1; omega)).trans ?_))) ?_
          clear hK K
          try simp only [Act.put, List.setIfInBounds_toArray, List.set_cons_zero, List.set_cons_succ]
          refine wpAnyS_ready [9] (by kernel_rfl) (by simp) ?_
          refine AllReadyS.cons ⟨some 37, .call { callee := .builtin .append, args := #[.tmp 34, .tmp 36], argTypes := #[23, 23] }, 23, _, _, none⟩ rfl (fun K hK => ?_) AllReadyS.nil
          refine step_append_lies _ (by rfl) _ _ 23 (by rfl) w'.heap.size 26 i0 (.agg #[.int .i64 0, .int .i64 0, .string ⟨#[]⟩, .slice none 0 0, .slice none 0 0, .slice none 0 0]) 6 104 Tryz.underlying23 HI.out.1 HI.out.2.1 HI.out.2.2.1 HI.out.2.2.2 rfl (by omega) (.slice va k vc) k xs (by rfl) (by repeat (first | with_reducible exact HV2.out.own | with_reducible refine World.ownsRow.drew ?_ | with_reducible refine World.ownsRow.alloc ?_ _ | with_reducible refine World.ownsRow.kept ?_ hgrow1 HNE.out)) ⟨w3.heap.size, 0, none⟩ 1 1 [.int .i64 rk, .int .i64 rh, .string rt, .slice a1 n1 m1, .slice a2 n2 m2, .slice a3 n3 m3] (by rfl) (by rfl) (World.news_of_block (cs := #[.int .i64 rk, .int .i64 rh, .string rt, .slice a1 n1 m1, .slice a2 n2 m2, .slice a3 n3 m3]) (t := 26) (fr := (0, 0)) (heap_new' _ _ (by (try simp only [size_alloc, size_drew])))) (by simp [Value.oneCell']) (by omega) (by unfold maxLen; omega) (by omega) (by (try simp only [size_alloc, size_drew]); omega) _ rfl ?_; intro g2 cap2 w5 hown2 hgrow2 hat2 hlt2; have hs5 := hgrow2.size; (try simp only [size_alloc, size_drew] at hs5); have hq5 : w5.heap[w.heap.size + 1]? = some (.cells #[.int .i64 6, .int .i64 0, .string ⟨#[]⟩, .slice none 0 0, .slice ka k kc, .slice va k vc] 26) := (hgrow2.block _ (by (try simp only [size_alloc, size_drew]); omega) HN1.out.2.1).trans (by repeat (first | with_reducible exact HB1.out | with_reducible refine heap_drew ?_ | with_reducible refine heap_old' _ _ (by (try simp only [size_alloc, size_drew]); omega) ?_ | with_reducible refine (hgrow1.block _ (by (try simp only [size_alloc, size_drew]); omega) HN1.out.1).trans ?_)); have q54 : w5.cell? ⟨w.heap.size + 1, 4, none⟩ = some (.slice ka k kc) := (by simp [World.cell?, hq5]); have q55 : w5.cell? ⟨w.heap.size + 1, 5, none⟩ = some (.slice va k vc) := (by simp [World.cell?, hq5]); have qf : ∀ q, w5.frozen? ⟨w.heap.size + 1, q, none⟩ = false := fun q => (by simp [World.frozen?, hq5]); clear hq5
          refine hK _ _ (by repeat (first | with_reducible exact HB2.out | with_reducible refine heap_drew ?_ | with_reducible refine heap_old' _ _ (by (try simp only [size_alloc, size_drew]); omega) ?_ | with_reducible refine (hgrow1.block _ (by (try simp only [size_alloc, size_drew]); omega) HN1.out.2.2.1).trans ?_ | with_reducible refine (hgrow2.block _ (by (try simp only [size_alloc, size_drew]); omega) HN1.out.2.2.2).trans ?_ | with_reducible refine (Below.heap_setCell _ _ _ _ (by show w9.heap.size ≠ w.heap.size + 1; omega)).trans ?_)) (fun _ _ => (by repeat (first | with_reducible exact HB1.out | with_reducible refine heap_drew ?_ | with_reducible refine heap_old' _ _ (by (try simp only [size_alloc, size_drew]); omega) ?_ | with_reducible refine (hgrow1.block _ (by (try simp only [size_alloc, size_drew]); omega) HN1.out.1).trans ?_ | with_reducible refine (hgrow2.block _ (by (try simp only [size_alloc, size_drew]); omega) HN1.out.2.1).trans ?_ | with_reducible refine (Below.heap_setCell _ _ _ _ (by show w9.heap.size ≠ w.heap.size + 1; omega)).trans ?_))) ?_
          clear hK K
          try simp only [Act.put, List.setIfInBounds_toArray, List.set_cons_zero, List.set_cons_succ]
          refine wpAnyS_ready [11] (by kernel_rfl) (by simp) ?_
          refine AllReadyS.cons ⟨none, .store 24 (.tmp 38) (.tmp 32), 0, _, _, none⟩ rfl (fun K hK => ?_) AllReadyS.nil
          go_simp
          refine hK _ _ (by repeat (first | with_reducible exact HB2.out | with_reducible refine heap_drew ?_ | with_reducible refine heap_old' _ _ (by (try simp only [size_alloc, size_drew]); omega) ?_ | with_reducible refine (hgrow1.block _ (by (try simp only [size_alloc, size_drew]); omega) HN1.out.2.2.1).trans ?_ | with_reducible refine (hgrow2.block _ (by (try simp only [size_alloc, size_drew]); omega) HN1.out.2.2.2).trans ?_ | with_reducible refine (Below.heap_setCell _ _ _ _ (by show w9.heap.size ≠ w.heap.size + 1; omega)).trans ?_)) (fun h => absurd h (by decide)) ?_
          clear hK K
          try simp only [Act.put, List.setIfInBounds_toArray, List.set_cons_zero, List.set_cons_succ]
          refine wpAnyS_takeT 12 ⟨some 39, .fieldAddr 26 (.tmp 4) 5, 0, _, _, none⟩ (v := ?_) rfl (by kernel_rfl) (by kernel_rfl) (by kernel_rfl) (fun _ _ _ h => h) (Or.inl ⟨by rfl, ?_⟩) (by repeat (first | with_reducible exact HB2.out | with_reducible refine heap_drew ?_ | with_reducible refine heap_old' _ _ (by (try simp only [size_alloc, size_drew]); omega) ?_ | with_reducible refine (hgrow1.block _ (by (try simp only [size_alloc, size_drew]); omega) HN1.out.2.2.1).trans ?_ | with_reducible refine (hgrow2.block _ (by (try simp only [size_alloc, size_drew]); omega) HN1.out.2.2.2).trans ?_ | with_reducible refine (Below.heap_setCell _ _ _ _ (by show w9.heap.size ≠ w.heap.size + 1; omega)).trans ?_)) ?_
          rotate_left
          · (intro x hx; clear hx; go_simp; try with_reducible rfl)
          try simp only [Act.put, List.setIfInBounds_toArray, List.set_cons_zero, List.set_cons_succ]
          refine wpAnyS_ready [13] (by kernel_rfl) (by simp) ?_
          refine AllReadyS.cons ⟨none, .store 23 (.tmp 39) (.tmp 37), 0, _, _, none⟩ rfl (fun K hK => ?_) AllReadyS.nil
          go_simp
          refine hK _ _ (by repeat (first | with_reducible exact HB2.out | with_reducible refine heap_drew ?_ | with_reducible refine heap_old' _ _ (by (try simp only [size_alloc, size_drew]); omega) ?_ | with_reducible refine (hgrow1.block _ (by (try simp only [size_alloc, size_drew]); omega) HN1.out.2.2.1).trans ?_ | with_reducible refine (hgrow2.block _ (by (try simp only [size_alloc, size_drew]); omega) HN1.out.2.2.2).trans ?_ | with_reducible refine (Below.heap_setCell _ _ _ _ (by show w9.heap.size ≠ w.heap.size + 1; omega)).trans ?_)) (fun h => absurd h (by decide)) ?_
          clear hK K
          try simp only [Act.put, List.setIfInBounds_toArray, List.set_cons_zero, List.set_cons_succ]
          refine wpAnyS_done (by kernel_rfl) ?_ _
          have HA := Lib.hid (HV2.out.app hlt hltv HJ.out (by repeat (first | with_reducible exact Below.refl _ _ | with_reducible refine Below.drew ?_ | with_reducible refine below_alloc' ?_ _)) hown1 hgrow1 hat1 hlt1 (by repeat (first | with_reducible exact Below.refl _ _ | with_reducible refine Below.drew ?_ | with_reducible refine below_alloc' ?_ _)) hown2 hgrow2 hat2)
          have HAB := Lib.hid (HV2.out.app_lo (by repeat (first | with_reducible exact Below.refl _ _ | with_reducible refine Below.drew ?_ | with_reducible refine below_alloc' ?_ _)) hgrow1 (by repeat (first | with_reducible exact Below.refl _ _ | with_reducible refine Below.drew ?_ | with_reducible refine below_alloc' ?_ _)) hgrow2 (.slice (some ⟨g, 0, none⟩) (k + 1) cap) (.slice (some ⟨g2, 0, none⟩) (k + 1) cap2))
          clear hgrow1 hgrow2 hown1 hown2 hat1 hat2 q3 q34 q35 q3A q54 q55 qf
          go_wp2_with fail
          go_roundw
          case rel => exact ⟨k + 1, _, _, _, hlt, by go_num, fun b h1 h2 => (HAB.out b h1 h2).trans ((HWR.out b (by omega)).trans (HBW.out b h1 h2)), HA.out⟩
          case measure => simp [RowKit.intOf]; omega
        refine AllReadyS.cons ⟨some 36, .buildSlice 23 1 #[(0, .tmp 35)], 23, _, _, none⟩ rfl (fun K hK => ?_) ?_
        · go_simp
          refine hK _ _ (by repeat (first | with_reducible exact HB2.out | with_reducible refine heap_drew ?_ | with_reducible refine heap_old' _ _ (by (try simp only [size_alloc, size_drew]); omega) ?_ | with_reducible refine (hgrow1.block _ (by (try simp only [size_alloc, size_drew]); omega) HN1.out.2.2.1).trans ?_ | with_reducible refine (hgrow2.block _ (by (try simp only [size_alloc, size_drew]); omega) HN1.out.2.2.2).trans ?_ | with_reducible refine (Below.heap_setCell _ _ _ _ (by show w9.heap.size ≠ w.heap.size + 1; omega)).trans ?_)) (fun _ _ => (by repeat (first | with_reducible exact HB1.out | with_reducible refine heap_drew ?_ | with_reducible refine heap_old' _ _ (by (try simp only [size_alloc, size_drew]); omega) ?_ | with_reducible refine (hgrow1.block _ (by (try simp only [size_alloc, size_drew]); omega) HN1.out.1).trans ?_ | with_reducible refine (hgrow2.block _ (by (try simp only [size_alloc, size_drew]); omega) HN1.out.2.1).trans ?_ | with_reducible refine (Below.heap_setCell _ _ _ _ (by show w9.heap.size ≠ w.heap.size + 1; omega)).trans ?_))) ?_
          clear hK K
          try simp only [Act.put, List.setIfInBounds_toArray, List.set_cons_zero, List.set_cons_succ]
          refine wpAnyS_ready [4] (by kernel_rfl) (by simp) ?_
          refine AllReadyS.cons ⟨some 32, .call { callee := .builtin .append, args := #[.tmp 29, .tmp 31], argTypes := #[24, 24] }, 24, _, _, none⟩ rfl (fun K hK => ?_) AllReadyS.nil
          refine step_append_lies _ (by rfl) _ _ 24 (by rfl) w'.heap.size 9 i9 (.string ⟨#[]⟩) 1 16 Tryz.underlying24 HI9.out.1 HI9.out.2.1 HI9.out.2.2.1 HI9.out.2.2.2 rfl (by omega) (.slice ka k kc) k ((ks.take k).map Value.string) (by rfl) (by repeat (first | with_reducible exact HV2.out.kown | with_reducible refine World.ownsRow.drew ?_ | with_reducible refine World.ownsRow.alloc ?_ _)) ⟨w9.heap.size + 1, 0, none⟩ 1 1 [.string ks[k]] (by rfl) (by rfl) (World.news_of_block (cs := #[.string ks[k]]) (t := 9) (fr := (0, 0)) (heap_old' _ _ (by (try simp only [size_alloc, size_drew]); omega) (heap_new' _ _ (by (try simp only [size_alloc, size_drew]))))) (by simp [Value.oneCell']) (by omega) (by unfold maxLen; omega) (by omega) (by have := HV2.out.size; (try simp only [size_alloc, size_drew] at this ⊢); omega) _ rfl ?_; intro g cap w3 hown1 hgrow1 hat1 hlt1; have hs3 := hgrow1.size; (try simp only [size_alloc, size_drew] at hs3); have q3 : ∀ q, w3.cell? ⟨w.heap.size + 1, q, none⟩ = (w9.alloc (.cells #[.int .i64 rk, .int .i64 rh, .string rt, .slice a1 n1 m1, .slice a2 n2 m2, .slice a3 n3 m3] 26)).cell? ⟨w.heap.size + 1, q, none⟩ := fun q => World.cell?_of_block ((hgrow1.block _ (by (try simp only [size_alloc, size_drew]); omega) HN1.out.1).trans ((by repeat (first | with_reducible exact HB1.out | with_reducible refine heap_drew ?_ | with_reducible refine heap_old' _ _ (by (try simp only [size_alloc, size_drew]); omega) ?_) : _ = _).trans HB1.out.symm)); have q34 := (q3 4).trans z4; have q35 := (q3 5).trans z5; have q3A := fun o => (World.cell?_of_block (a := ⟨w.heap.size + 1, 5, none⟩) (Below.heap_alloc w3 o (w.heap.size + 1) (by omega))).trans q35
          refine hK _ _ (by repeat (first | with_reducible exact HB2.out | with_reducible refine heap_drew ?_ | with_reducible refine heap_old' _ _ (by (try simp only [size_alloc, size_drew]); omega) ?_ | with_reducible refine (hgrow1.block _ (by (try simp only [size_alloc, size_drew]); omega) HN1.out.2.2.1).trans ?_ | with_reducible refine (hgrow2.block _ (by (try simp only [size_alloc, size_drew]); omega) HN1.out.2.2.2).trans ?_ | with_reducible refine (Below.heap_setCell _ _ _ _ (by show w9.heap.size ≠ w.heap.size + 1; omega)).trans ?_)) (fun _ _ => (by repeat (first | with_reducible exact HB1.out | with_reducible refine heap_drew ?_ | with_reducible refine heap_old' _ _ (by (try simp only [size_alloc, size_drew]); omega) ?_ | with_reducible refine (hgrow1.block _ (by (try simp only [size_alloc, size_drew]); omega) HN1.out.1).trans ?_ | with_reducible refine (hgrow2.block _ (by (try simp only [size_alloc, size_drew]); omega) HN1.out.2.1).trans ?_ | with_reducible refine (Below.heap_setCell _ _ _ _ (by show w9.heap.size ≠ w.heap.size + 1; omega)).trans ?_))) ?_
          clear hK K
          try simp only [Act.put, List.setIfInBounds_toArray, List.set_cons_zero, List.set_cons_succ]
          refine wpAnyS_takeT 10 ⟨some 38, .fieldAddr 26 (.tmp 4) 4, 0, _, _, none⟩ (v := ?_) rfl (by kernel_rfl) (by kernel_rfl) (by kernel_rfl) (fun _ _ _ h => h) (Or.inl ⟨by rfl, ?_⟩) (by repeat (first | with_reducible exact HB2.out | with_reducible refine heap_drew ?_ | with_reducible refine heap_old' _ _ (by (try simp only [size_alloc, size_drew]); omega) ?_ | with_reducible refine (hgrow1.block _ (by (try simp only [size_alloc, size_drew]); omega) HN1.out.2.2.1).trans ?_ | with_reducible refine (hgrow2.block _ (by (try simp only [size_alloc, size_drew]); omega) HN1.out.2.2.2).trans ?_ | with_reducible refine (Below.heap_setCell _ _ _ _ (by show w9.heap.size ≠ w.heap.size + 1; omega)).trans ?_)) ?_
          rotate_left
          · (intro x hx; clear hx; go_simp; try with_reducible rfl)
          try simp only [Act.put, List.setIfInBounds_toArray, List.set_cons_zero, List.set_cons_succ]
          refine wpAnyS_ready [9] (by kernel_rfl) (by simp) ?_
          refine AllReadyS.cons ⟨some 37, .call { callee := .builtin .append, args := #[.tmp 34, .tmp 36], argTypes := #[23, 23] }, 23, _, _, none⟩ rfl (fun K hK => ?_) AllReadyS.nil
          refine step_append_lies _ (by rfl) _ _ 23 (by rfl) w'.heap.size 26 i0 (.agg #[.int .i64 0, .int .i64 0, .string ⟨#[]⟩, .slice none 0 0, .slice none 0 0, .slice none 0 0]) 6 104 Tryz.underlying23 HI.out.1 HI.out.2.1 HI.out.2.2.1 HI.out.2.2.2 rfl (by omega) (.slice va k vc) k xs (by rfl) (by repeat (first | with_reducible exact HV2.out.own | with_reducible refine World.ownsRow.drew ?_ | with_reducible refine World.ownsRow.alloc ?_ _ | with_reducible refine World.ownsRow.kept ?_ hgrow1 HNE.out)) ⟨w9.heap.size + 1 + 1, 0, none⟩ 1 1 [.int .i64 rk, .int .i64 rh, .string rt, .slice a1 n1 m1, .slice a2 n2 m2, .slice a3 n3 m3] (by rfl) (by rfl) (World.news_of_block (cs := #[.int .i64 rk, .int .i64 rh, .string rt, .slice a1 n1 m1, .slice a2 n2 m2, .slice a3 n3 m3]) (t := 26) (fr := (0, 0)) ((hgrow1.block _ (by (try simp only [size_alloc, size_drew]); omega) (HNK.out _ (by omega))).trans (by repeat (first | with_reducible refine heap_drew ?_ | with_reducible exact heap_new' _ _ (by (try simp only [size_alloc, size_drew])))))) (by simp [Value.oneCell']) (by omega) (by unfold maxLen; omega) (by omega) (by (try simp only [size_alloc, size_drew]); omega) _ rfl ?_; intro g2 cap2 w5 hown2 hgrow2 hat2 hlt2; have hs5 := hgrow2.size; (try simp only [size_alloc, size_drew] at hs5); have hq5 : w5.heap[w.heap.size + 1]? = some (.cells #[.int .i64 6, .int .i64 0, .string ⟨#[]⟩, .slice none 0 0, .slice ka k kc, .slice va k vc] 26) := (hgrow2.block _ (by (try simp only [size_alloc, size_drew]); omega) HN1.out.2.1).trans (by repeat (first | with_reducible exact HB1.out | with_reducible refine heap_drew ?_ | with_reducible refine heap_old' _ _ (by (try simp only [size_alloc, size_drew]); omega) ?_ | with_reducible refine (hgrow1.block _ (by (try simp only [size_alloc, size_drew]); omega) HN1.out.1).trans ?_)); have q54 : w5.cell? ⟨w.heap.size + 1, 4, none⟩ = some (.slice ka k kc) := (by simp [World.cell?, hq5]); have q55 : w5.cell? ⟨w.heap.size + 1, 5, none⟩ = some (.slice va k vc) := (by simp [World.cell?, hq5]); have qf : ∀ q, w5.frozen? ⟨w.heap.size + 1, q, none⟩ = false := fun q => (by simp [World.frozen?, hq5]); clear hq5
          refine hK _ _ (by repeat (first | with_reducible exact HB2.out | with_reducible refine heap_drew ?_ | with_reducible refine heap_old' _ _ (by (try simp only [size_alloc, size_drew]); omega) ?_ | with_reducible refine (hgrow1.block _ (by (try simp only [size_alloc, size_drew]); omega) HN1.out.2.2.1).trans ?_ | with_reducible refine (hgrow2.block _ (by (try simp only [size_alloc, size_drew]); omega) HN1.out.2.2.2).trans ?_ | with_reducible refine (Below.heap_setCell _ _ _ _ (by show w9.heap.size ≠ w.heap.size + 1; omega)).trans ?_)) (fun _ _ => (by repeat (first | with_reducible exact HB1.out | with_reducible refine heap_drew ?_ | with_reducible refine heap_old' _ _ (by (try simp only [size_alloc, size_drew]); omega) ?_ | with_reducible refine (hgrow1.block _ (by (try simp only [size_alloc, size_drew]); omega) HN1.out.1).trans ?_ | with_reducible refine (hgrow2.block _ (by (try simp only [size_alloc, size_drew]); omega) HN1.out.2.1).trans ?_ | with_reducible refine (Below.heap_setCell _ _ _ _ (by show w9.heap.size ≠ w.heap.size + 1; omega)).trans ?_))) ?_
          clear hK K
          try simp only [Act.put, List.setIfInBounds_toArray, List.set_cons_zero, List.set_cons_succ]
          refine wpAnyS_ready [11] (by kernel_rfl) (by simp) ?_
          refine AllReadyS.cons ⟨none, .store 24 (.tmp 38) (.tmp 32), 0, _, _, none⟩ rfl (fun K hK => ?_) AllReadyS.nil
          go_simp
          refine hK _ _ (by repeat (first | with_reducible exact HB2.out | with_reducible refine heap_drew ?_ | with_reducible refine heap_old' _ _ (by (try simp only [size_alloc, size_drew]); omega) ?_ | with_reducible refine (hgrow1.block _ (by (try simp only [size_alloc, size_drew]); omega) HN1.out.2.2.1).trans ?_ | with_reducible refine (hgrow2.block _ (by (try simp only [size_alloc, size_drew]); omega) HN1.out.2.2.2).trans ?_ | with_reducible refine (Below.heap_setCell _ _ _ _ (by show w9.heap.size ≠ w.heap.size + 1; omega)).trans ?_)) (fun h => absurd h (by decide)) ?_
          clear hK K
          try simp only [Act.put, List.setIfInBounds_toArray, List.set_cons_zero, List.set_cons_succ]
          refine wpAnyS_takeT 12 ⟨some 39, .fieldAddr 26 (.tmp 4) 5, 0, _, _, none⟩ (v := ?_) rfl (by kernel_rfl) (by kernel_rfl) (by kernel_rfl) (fun _ _ _ h => h) (Or.inl ⟨by rfl, ?_⟩) (by repeat (first | with_reducible exact HB2.out | with_reducible refine heap_drew ?_ | with_reducible refine heap_old' _ _ (by (try simp only [size_alloc, size_drew]); omega) ?_ | with_reducible refine (hgrow1.block _ (by (try simp only [size_alloc, size_drew]); omega) HN1.out.2.2.1).trans ?_ | with_reducible refine (hgrow2.block _ (by (try simp only [size_alloc, size_drew]); omega) HN1.out.2.2.2).trans ?_ | with_reducible refine (Below.heap_setCell _ _ _ _ (by show w9.heap.size ≠ w.heap.size + 1; omega)).trans ?_)) ?_
          rotate_left
          · (intro x hx; clear hx; go_simp; try with_reducible rfl)
          try simp only [Act.put, List.setIfInBounds_toArray, List.set_cons_zero, List.set_cons_succ]
          refine wpAnyS_ready [13] (by kernel_rfl) (by simp) ?_
          refine AllReadyS.cons ⟨none, .store 23 (.tmp 39) (.tmp 37), 0, _, _, none⟩ rfl (fun K hK => ?_) AllReadyS.nil
          go_simp
          refine hK _ _ (by repeat (first | with_reducible exact HB2.out | with_reducible refine heap_drew ?_ | with_reducible refine heap_old' _ _ (by (try simp only [size_alloc, size_drew]); omega) ?_ | with_reducible refine (hgrow1.block _ (by (try simp only [size_alloc, size_drew]); omega) HN1.out.2.2.1).trans ?_ | with_reducible refine (hgrow2.block _ (by (try simp only [size_alloc, size_drew]); omega) HN1.out.2.2.2).trans ?_ | with_reducible refine (Below.heap_setCell _ _ _ _ (by show w9.heap.size ≠ w.heap.size + 1; omega)).trans ?_)) (fun h => absurd h (by decide)) ?_
          clear hK K
          try simp only [Act.put, List.setIfInBounds_toArray, List.set_cons_zero, List.set_cons_succ]
          refine wpAnyS_done (by kernel_rfl) ?_ _
          have HA := Lib.hid (HV2.out.app hlt hltv HJ.out (by repeat (first | with_reducible exact Below.refl _ _ | with_reducible refine Below.drew ?_ | with_reducible refine below_alloc' ?_ _)) hown1 hgrow1 hat1 hlt1 (by repeat (first | with_reducible exact Below.refl _ _ | with_reducible refine Below.drew ?_ | with_reducible refine below_alloc' ?_ _)) hown2 hgrow2 hat2)
          have HAB := Lib.hid (HV2.out.app_lo (by repeat (first | with_reducible exact Below.refl _ _ | with_reducible refine Below.drew ?_ | with_reducible refine below_alloc' ?_ _)) hgrow1 (by repeat (first | with_reducible exact Below.refl _ _ | with_reducible refine Below.drew ?_ | with_reducible refine below_alloc' ?_ _)) hgrow2 (.slice (some ⟨g, 0, none⟩) (k + 1) cap) (.slice (some ⟨g2, 0, none⟩) (k + 1) cap2))
          clear hgrow1 hgrow2 hown1 hown2 hat1 hat2 q3 q34 q35 q3A q54 q55 qf
          go_wp2_with fail
          go_roundw
          case rel => exact ⟨k + 1, _, _, _, hlt, by go_num, fun b h1 h2 => (HAB.out b h1 h2).trans ((HWR.out b (by omega)).trans (HBW.out b h1 h2)), HA.out⟩
          case measure => simp [RowKit.intOf]; omega
        exact AllReadyS.nil
      refine AllReadyS.cons ⟨some 36, .buildSlice 23 1 #[(0, .tmp 35)], 23, _, _, none⟩ rfl (fun K hK => ?_) ?_
      · go_simp
        refine hK _ _ (by repeat (first | with_reducible exact HB2.out | with_reducible refine heap_drew ?_ | with_reducible refine heap_old' _ _ (by (try simp only [size_alloc, size_drew]); omega) ?_ | with_reducible refine (hgrow1.block _ (by (try simp only [size_alloc, size_drew]); omega) HN1.out.2.2.1).trans ?_ | with_reducible refine (hgrow2.block _ (by (try simp only [size_alloc, size_drew]); omega) HN1.out.2.2.2).trans ?_ | with_reducible refine (Below.heap_setCell _ _ _ _ (by show w9.heap.size ≠ w.heap.size + 1; omega)).trans ?_)) (fun _ _ => (by repeat (first | with_reducible exact HB1.out | with_reducible refine heap_drew ?_ | with_reducible refine heap_old' _ _ (by (try simp only [size_alloc, size_drew]); omega) ?_ | with_reducible refine (hgrow1.block _ (by (try simp only [size_alloc, size_drew]); omega) HN1.out.1).trans ?_ | with_reducible refine (hgrow2.block _ (by (try simp only [size_alloc, size_drew]); omega) HN1.out.2.1).trans ?_ | with_reducible refine (Below.heap_setCell _ _ _ _ (by show w9.heap.size ≠ w.heap.size + 1; omega)).trans ?_))) ?_
        clear hK K
        try simp only [Act.put, List.setIfInBounds_toArray, List.set_cons_zero, List.set_cons_succ]
        refine wpAnyS_ready [3] (by kernel_rfl) (by simp) ?_
        refine AllReadyS.cons ⟨some 31, .buildSlice 24 1 #[(0, .tmp 30)], 24, _, _, none⟩ rfl (fun K hK => ?_) AllReadyS.nil
        go_simp
        refine hK _ _ (by repeat (first | with_reducible exact HB2.out | with_reducible refine heap_drew ?_ | with_reducible refine heap_old' _ _ (by (try simp only [size_alloc, size_drew]); omega) ?_ | with_reducible refine (hgrow1.block _ (by (try simp only [size_alloc, size_drew]); omega) HN1.out.2.2.1).trans ?_ | with_reducible refine (hgrow2.block _ (by (try simp only [size_alloc, size_drew]); omega) HN1.out.2.2.2).trans ?_ | with_reducible refine (Below.heap_setCell _ _ _ _ (by show w9.heap.size ≠ w.heap.size + 1; omega)).trans ?_)) (fun _ _ => (by repeat (first | with_reducible exact HB1.out | with_reducible refine heap_drew ?_ | with_reducible refine heap_old' _ _ (by (try simp only [size_alloc, size_drew]); omega) ?_ | with_reducible refine (hgrow1.block _ (by (try simp only [size_alloc, size_drew]); omega) HN1.out.1).trans ?_ | with_reducible refine (hgrow2.block _ (by (try simp only [size_alloc, size_drew]); omega) HN1.out.2.1).trans ?_ | with_reducible refine (Below.heap_setCell _ _ _ _ (by show w9.heap.size ≠ w.heap.size + 1; omega)).trans ?_))) ?_
        clear hK K
        try simp only [Act.put, List.setIfInBounds_toArray, List.set_cons_zero, List.set_cons_succ]
        refine wpAnyS_ready [4] (by kernel_rfl) (by simp) ?_
        refine AllReadyS.cons ⟨some 32, .call { callee := .builtin .append, args := #[.tmp 29, .tmp 31], argTypes := #[24, 24] }, 24, _, _, none⟩ rfl (fun K hK => ?_) AllReadyS.nil
        refine step_append_lies _ (by rfl) _ _ 24 (by rfl) w'.heap.size 9 i9 (.string ⟨#[]⟩) 1 16 Tryz.underlying24 HI9.out.1 HI9.out.2.1 HI9.out.2.2.1 HI9.out.2.2.2 rfl (by omega) (.slice ka k kc) k ((ks.take k).map Value.string) (by rfl) (by repeat (first | with_reducible exact HV2.out.kown | with_reducible refine World.ownsRow.drew ?_ | with_reducible refine World.ownsRow.alloc ?_ _)) ⟨w9.heap.size + 1 + 1, 0, none⟩ 1 1 [.string ks[k]] (by rfl) (by rfl) (World.news_of_block (cs := #[.string ks[k]]) (t := 9) (fr := (0, 0)) (heap_new' _ _ (by (try simp only [size_alloc, size_drew])))) (by simp [Value.oneCell']) (by omega) (by unfold maxLen; omega) (by omega) (by have := HV2.out.size; (try simp only [size_alloc, size_drew] at this ⊢); omega) _ rfl ?_; intro g cap w3 hown1 hgrow1 hat1 hlt1; have hs3 := hgrow1.size; (try simp only [size_alloc, size_drew] at hs3); have q3 : ∀ q, w3.cell? ⟨w.heap.size + 1, q, none⟩ = (w9.alloc (.cells #[.int .i64 rk, .int .i64 rh, .string rt, .slice a1 n1 m1, .slice a2 n2 m2, .slice a3 n3 m3] 26)).cell? ⟨w.heap.size + 1, q, none⟩ := fun q => World.cell?_of_block ((hgrow1.block _ (by (try simp only [size_alloc, size_drew]); omega) HN1.out.1).trans ((by repeat (first | with_reducible exact HB1.out | with_reducible refine heap_drew ?_ | with_reducible refine heap_old' _ _ (by (try simp only [size_alloc, size_drew]); omega) ?_) : _ = _).trans HB1.out.symm)); have q34 := (q3 4).trans z4; have q35 := (q3 5).trans z5; have q3A := fun o => (World.cell?_of_block (a := ⟨w.heap.size + 1, 5, none⟩) (Below.heap_alloc w3 o (w.heap.size + 1) (by omega))).trans q35
        refine hK _ _ (by repeat (first | with_reducible exact HB2.out | with_reducible refine heap_drew ?_ | with_reducible refine heap_old' _ _ (by (try simp only [size_alloc, size_drew]); omega) ?_ | with_reducible refine (hgrow1.block _ (by (try simp only [size_alloc, size_drew]); omega) HN1.out.2.2.1).trans ?_ | with_reducible refine (hgrow2.block _ (by (try simp only [size_alloc, size_drew]); omega) HN1.out.2.2.2).trans ?_ | with_reducible refine (Below.heap_setCell _ _ _ _ (by show w9.heap.size ≠ w.heap.size + 1; omega)).trans ?_)) (fun _ _ => (by repeat (first | with_reducible exact HB1.out | with_reducible refine heap_drew ?_ | with_reducible refine heap_old' _ _ (by (try simp only [size_alloc, size_drew]); omega) ?_ | with_reducible refine (hgrow1.block _ (by (try simp only [size_alloc, size_drew]); omega) HN1.out.1).trans ?_ | with_reducible refine (hgrow2.block _ (by (try simp only [size_alloc, size_drew]); omega) HN1.out.2.1).trans ?_ | with_reducible refine (Below.heap_setCell _ _ _ _ (by show w9.heap.size ≠ w.heap.size + 1; omega)).trans ?_))) ?_
        clear hK K
        try simp only [Act.put, List.setIfInBounds_toArray, List.set_cons_zero, List.set_cons_succ]
        refine wpAnyS_takeT 10 ⟨some 38, .fieldAddr 26 (.tmp 4) 4, 0, _, _, none⟩ (v := ?_) rfl (by kernel_rfl) (by kernel_rfl) (by kernel_rfl) (fun _ _ _ h => h) (Or.inl ⟨by rfl, ?_⟩) (by repeat (first | with_reducible exact HB2.out | with_reducible refine heap_drew ?_ | with_reducible refine heap_old' _ _ (by (try simp only [size_alloc, size_drew]); omega) ?_ | with_reducible refine (hgrow1.block _ (by (try simp only [size_alloc, size_drew]); omega) HN1.out.2.2.1).trans ?_ | with_reducible refine (hgrow2.block _ (by (try simp only [size_alloc, size_drew]); omega) HN1.out.2.2.2).trans ?_ | with_reducible refine (Below.heap_setCell _ _ _ _ (by show w9.heap.size ≠ w.heap.size + 1; omega)).trans ?_)) ?_
        rotate_left
        · (intro x hx; clear hx; go_simp; try with_reducible rfl)
        try simp only [Act.put, List.setIfInBounds_toArray, List.set_cons_zero, List.set_cons_succ]
        refine wpAnyS_ready [9] (by kernel_rfl) (by simp) ?_
        refine AllReadyS.cons ⟨some 37, .call { callee := .builtin .append, args := #[.tmp 34, .tmp 36], argTypes := #[23, 23] }, 23, _, _, none⟩ rfl (fun K hK => ?_) AllReadyS.nil
        refine step_append_lies _ (by rfl) _ _ 23 (by rfl) w'.heap.size 26 i0 (.agg #[.int .i64 0, .int .i64 0, .string ⟨#[]⟩, .slice none 0 0, .slice none 0 0, .slice none 0 0]) 6 104 Tryz.underlying23 HI.out.1 HI.out.2.1 HI.out.2.2.1 HI.out.2.2.2 rfl (by omega) (.slice va k vc) k xs (by rfl) (by repeat (first | with_reducible exact HV2.out.own | with_reducible refine World.ownsRow.drew ?_ | with_reducible refine World.ownsRow.alloc ?_ _ | with_reducible refine World.ownsRow.kept ?_ hgrow1 HNE.out)) ⟨w9.heap.size + 1, 0, none⟩ 1 1 [.int .i64 rk, .int .i64 rh, .string rt, .slice a1 n1 m1, .slice a2 n2 m2, .slice a3 n3 m3] (by rfl) (by rfl) (World.news_of_block (cs := #[.int .i64 rk, .int .i64 rh, .string rt, .slice a1 n1 m1, .slice a2 n2 m2, .slice a3 n3 m3]) (t := 26) (fr := (0, 0)) ((hgrow1.block _ (by (try simp only [size_alloc, size_drew]); omega) (HNK.out _ (by omega))).trans (by repeat (first | with_reducible refine heap_drew ?_ | with_reducible exact heap_new' _ _ (by (try simp only [size_alloc, size_drew]); done) | with_reducible refine heap_old' _ _ (by (try simp only [size_alloc, size_drew]); omega) ?_)))) (by simp [Value.oneCell']) (by omega) (by unfold maxLen; omega) (by omega) (by (try simp only [size_alloc, size_drew]); omega) _ rfl ?_; intro g2 cap2 w5 hown2 hgrow2 hat2 hlt2; have hs5 := hgrow2.size; (try simp only [size_alloc, size_drew] at hs5); have hq5 : w5.heap[w.heap.size + 1]? = some (.cells #[.int .i64 6, .int .i64 0, .string ⟨#[]⟩, .slice none 0 0, .slice ka k kc, .slice va k vc] 26) := (hgrow2.block _ (by (try simp only [size_alloc, size_drew]); omega) HN1.out.2.1).trans (by repeat (first | with_reducible exact HB1.out | with_reducible refine heap_drew ?_ | with_reducible refine heap_old' _ _ (by (try simp only [size_alloc, size_drew]); omega) ?_ | with_reducible refine (hgrow1.block _ (by (try simp only [size_alloc, size_drew]); omega) HN1.out.1).trans ?_)); have q54 : w5.cell? ⟨w.heap.size + 1, 4, none⟩ = some (.slice ka k kc) := (by simp [World.cell?, hq5]); have q55 : w5.cell? ⟨w.heap.size + 1, 5, none⟩ = some (.slice va k vc) := (by simp [World.cell?, hq5]); have qf : ∀ q, w5.frozen? ⟨w.heap.size + 1, q, none⟩ = false := fun q => (by simp [World.frozen?, hq5]); clear hq5
        refine hK _ _ (by repeat (first | with_reducible exact HB2.out | with_reducible refine heap_drew ?_ | with_reducible refine heap_old' _ _ (by (try simp only [size_alloc, size_drew]); omega) ?_ | with_reducible refine (hgrow1.block _ (by (try simp only [size_alloc, size_drew]); omega) HN1.out.2.2.1).trans ?_ | with_reducible refine (hgrow2.block _ (by (try simp only [size_alloc, size_drew]); omega) HN1.out.2.2.2).trans ?_ | with_reducible refine (Below.heap_setCell _ _ _ _ (by show w9.heap.size ≠ w.heap.size + 1; omega)).trans ?_)) (fun _ _ => (by repeat (first | with_reducible exact HB1.out | with_reducible refine heap_drew ?_ | with_reducible refine heap_old' _ _ (by (try simp only [size_alloc, size_drew]); omega) ?_ | with_reducible refine (hgrow1.block _ (by (try simp only [size_alloc, size_drew]); omega) HN1.out.1).trans ?_ | with_reducible refine (hgrow2.block _ (by (try simp only [size_alloc, size_drew]); omega) HN1.out.2.1).trans ?_ | with_reducible refine (Below.heap_setCell _ _ _ _ (by show w9.heap.size ≠ w.heap.size + 1; omega)).trans ?_))) ?_
        clear hK K
        try simp only [Act.put, List.setIfInBounds_toArray, List.set_cons_zero, List.set_cons_succ]
        refine wpAnyS_ready [11] (by kernel_rfl) (by simp) ?_
        refine AllReadyS.cons ⟨none, .store 24 (.tmp 38) (.tmp 32), 0, _, _, none⟩ rfl (fun K hK => ?_) AllReadyS.nil
        go_simp
        refine hK _ _ (by repeat (first | with_reducible exact HB2.out | with_reducible refine heap_drew ?_ | with_reducible refine heap_old' _ _ (by (try simp only [size_alloc, size_drew]); omega) ?_ | with_reducible refine (hgrow1.block _ (by (try simp only [size_alloc, size_drew]); omega) HN1.out.2.2.1).trans ?_ | with_reducible refine (hgrow2.block _ (by (try simp only [size_alloc, size_drew]); omega) HN1.out.2.2.2).trans ?_ | with_reducible refine (Below.heap_setCell _ _ _ _ (by show w9.heap.size ≠ w.heap.size + 1; omega)).trans ?_)) (fun h => absurd h (by decide)) ?_
        clear hK K
        try simp only [Act.put, List.setIfInBounds_toArray, List.set_cons_zero, List.set_cons_succ]
        refine wpAnyS_takeT 12 ⟨some 39, .fieldAddr 26 (.tmp 4) 5, 0, _, _, none⟩ (v := ?_) rfl (by kernel_rfl) (by kernel_rfl) (by kernel_rfl) (fun _ _ _ h => h) (Or.inl ⟨by rfl, ?_⟩) (by repeat (first | with_reducible exact HB2.out | with_reducible refine heap_drew ?_ | with_reducible refine heap_old' _ _ (by (try simp only [size_alloc, size_drew]); omega) ?_ | with_reducible refine (hgrow1.block _ (by (try simp only [size_alloc, size_drew]); omega) HN1.out.2.2.1).trans ?_ | with_reducible refine (hgrow2.block _ (by (try simp only [size_alloc, size_drew]); omega) HN1.out.2.2.2).trans ?_ | with_reducible refine (Below.heap_setCell _ _ _ _ (by show w9.heap.size ≠ w.heap.size + 1; omega)).trans ?_)) ?_
        rotate_left
        · (intro x hx; clear hx; go_simp; try with_reducible rfl)
        try simp only [Act.put, List.setIfInBounds_toArray, List.set_cons_zero, List.set_cons_succ]
        refine wpAnyS_ready [13] (by kernel_rfl) (by simp) ?_
        refine AllReadyS.cons ⟨none, .store 23 (.tmp 39) (.tmp 37), 0, _, _, none⟩ rfl (fun K hK => ?_) AllReadyS.nil
        go_simp
        refine hK _ _ (by repeat (first | with_reducible exact HB2.out | with_reducible refine heap_drew ?_ | with_reducible refine heap_old' _ _ (by (try simp only [size_alloc, size_drew]); omega) ?_ | with_reducible refine (hgrow1.block _ (by (try simp only [size_alloc, size_drew]); omega) HN1.out.2.2.1).trans ?_ | with_reducible refine (hgrow2.block _ (by (try simp only [size_alloc, size_drew]); omega) HN1.out.2.2.2).trans ?_ | with_reducible refine (Below.heap_setCell _ _ _ _ (by show w9.heap.size ≠ w.heap.size + 1; omega)).trans ?_)) (fun h => absurd h (by decide)) ?_
        clear hK K
        try simp only [Act.put, List.setIfInBounds_toArray, List.set_cons_zero, List.set_cons_succ]
        refine wpAnyS_done (by kernel_rfl) ?_ _
        have HA := Lib.hid (HV2.out.app hlt hltv HJ.out (by repeat (first | with_reducible exact Below.refl _ _ | with_reducible refine Below.drew ?_ | with_reducible refine below_alloc' ?_ _)) hown1 hgrow1 hat1 hlt1 (by repeat (first | with_reducible exact Below.refl _ _ | with_reducible refine Below.drew ?_ | with_reducible refine below_alloc' ?_ _)) hown2 hgrow2 hat2)
        have HAB := Lib.hid (HV2.out.app_lo (by repeat (first | with_reducible exact Below.refl _ _ | with_reducible refine Below.drew ?_ | with_reducible refine below_alloc' ?_ _)) hgrow1 (by repeat (first | with_reducible exact Below.refl _ _ | with_reducible refine Below.drew ?_ | with_reducible refine below_alloc' ?_ _)) hgrow2 (.slice (some ⟨g, 0, none⟩) (k + 1) cap) (.slice (some ⟨g2, 0, none⟩) (k + 1) cap2))
        clear hgrow1 hgrow2 hown1 hown2 hat1 hat2 q3 q34 q35 q3A q54 q55 qf
        go_wp2_with fail
        go_roundw
        case rel => exact ⟨k + 1, _, _, _, hlt, by go_num, fun b h1 h2 => (HAB.out b h1 h2).trans ((HWR.out b (by omega)).trans (HBW.out b h1 h2)), HA.out⟩
        case measure => simp [RowKit.intOf]; omega
      exact AllReadyS.nil
    · obtain rfl : k = ks.length := by omega
      have HV := Lib.hid hinv
      obtain ⟨y0, y1, y2, y3, y4, y5⟩ := hinv.out.c
      have yf := hinv.out.f
      obtain ⟨z0, z1, z2, z3, z4, z5⟩ := hinv.box.c
      clear hinv
      go_wp2_with fail
      have HZ := Lib.hid (set6_box HV.out.out (k' := 6) (h' := 0) (t' := ⟨#[]⟩) (r1 := .slice none 0 0) (r2 := .slice ka ks.length kc) (r3 := .slice va ks.length vc)).c
      have hfl := HV.out.flat
      have hlw := HV.out.low
      rw [HKV.out, List.take_length] at hfl
      have hown := HV.out.own
      rw [HKV.out] at hown
      have hkow := HV.out.kown
      rw [List.take_length] at hkow
      have hsm : Same (fun b => w'.heap.size ≤ b ∧ b < wr.heap.size) wr (set6 wr w.heap.size (.int .i64 6) (.int .i64 0) (.string ⟨#[]⟩) (.slice none 0 0) (.slice ka ks.length kc) (.slice va ks.length vc)) := fun b hb => set6_other _ _ _ _ _ _ b (by have := hb.1; omega)
      have hss : ∀ b, (w'.heap.size ≤ b ∧ b < wr.heap.size) → since w.heap.size (set6 wr w.heap.size (.int .i64 6) (.int .i64 0) (.string ⟨#[]⟩) (.slice none 0 0) (.slice ka ks.length kc) (.slice va ks.length vc)) b := fun b hb => ⟨by have := hb.1; omega, by rw [set6_size]; exact hb.2⟩
      have hsl := (slice_of_own (S := fun b => w'.heap.size ≤ b ∧ b < wr.heap.size) hown (hfl.keep (fun _ _ => rfl) fun b hb => ⟨hb.1, hb.2.1⟩) (by rw [← HKV.out]; exact hlen') (fun b e => hown.lt b e)).keep hsm hss
      have hks2 := (keys_of_own (S := fun b => w'.heap.size ≤ b ∧ b < wr.heap.size) hkow hlen' hks (fun b e => hkow.lt b e)).keep hsm hss
      have HR := Lib.hid (And.intro hks2 hsl)
      clear hfl hsl hown hkow hks2 hsm hss
      refine bodyPost_ret (w := (set6 wr w.heap.size (.int .i64 6) (.int .i64 0) (.string ⟨#[]⟩) (.slice none 0 0) (.slice ka ks.length kc) (.slice va ks.length vc))) (v := .tuple #[.agg #[.int .i64 6, .int .i64 0, .string ⟨#[]⟩, .slice none 0 0, .slice ka ks.length kc, .slice va ks.length vc], .bool true]) ?_ rfl ?_
      · obtain ⟨y0, y1, y2, y3, y4, y5⟩ := HZ.out
        simp [results, Tryz.results101, go_sem, y0, y1, y2, y3, y4, y5]
      · refine ⟨_, _, rfl, HV.out.bel.trans (below_set6 (Nat.le_refl _) _ _ _ _ _ _), HR.out.1, ?_⟩
        have := HR.out.2
        rw [HKV.out]
        rw [HKV.out] at this
        exact this
end Go.Gj
