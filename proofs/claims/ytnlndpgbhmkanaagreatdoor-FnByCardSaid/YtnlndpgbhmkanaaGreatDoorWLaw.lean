/-
  spec.Cmp and what it calls: the order of values is cmpJ.
-/
import Derived.Test.YtnlndpgbhmkanaaGreatDoorKitX
import Derived.Test.YtnlndpgbhmkanaaGreatDoorWFitB
namespace Go.Gj
open Go Go.RowKit Go.Proofs

def CmpOk (x : J) : Prop := ∀ (y : J) (w : World) (S : Nat → Prop) (va vb : Value), x.ok → y.ok → (∀ b, S b → b < w.heap.size) → JRep w S x va → JRep w S y vb →
  Calls Tryz.prog 86 #[va, vb] w fun e w' => e = .returned (.int .i64 (cmpJ x y)) ∧ Below w.heap.size w w'

theorem sign_ok (n : Int) (w : World) :
   Calls Tryz.prog 112 #[.int .i64 n] w fun e w' => e = .returned (.int .i64 (sgn n)) ∧ w = w' := by
  have key : ∀ m, m = n → sgn m = if n < 0 then -1 else if n > 0 then 1 else 0 := by rintro _ rfl; rfl
  by_cases h1 : n < 0
  · have e : sgn n = -1 := by simp [sgn, h1]
    rw [e]; clear e key
    go_enter Tryz.func112, Tryz.ntmps112
    go_wp2
    go_ret
    exact ⟨rfl, rfl⟩
  · by_cases h2 : n > 0
    · have e : sgn n = 1 := by simp [sgn, h1, h2]
      rw [e]; clear e key
      go_enter Tryz.func112, Tryz.ntmps112
      go_wp2
      go_ret
      exact ⟨rfl, rfl⟩
    · have e : sgn n = 0 := by simp [sgn, h1, h2]
      rw [e]; clear e key
      go_enter Tryz.func112, Tryz.ntmps112
      go_wp2
      go_ret
      exact ⟨rfl, rfl⟩
theorem texts_ok (a b : ByteArray) (w : World) :
   Calls Tryz.prog 113 #[.string a, .string b] w fun e w' => e = .returned (.int .i64 (cmpS a b)) ∧ w' = w := by
  have hs : cmpS a b = if Op.bytesLess a.toList b.toList then -1 else if a.toList == b.toList then 0 else 1 := rfl
  rw [hs]; clear hs
  go_enter Tryz.func113, Tryz.ntmps113
  go_wp2
  all_goals go_ret
  all_goals simp_all


theorem keys_ok (w : World) (S : Nat → Prop) (hS : ∀ b, S b → b < w.heap.size) (xs ys : List ByteArray) (va vb : Value) (ha : KSl w S xs va) (hb : KSl w S ys vb) :
   Calls Tryz.prog 115 #[va, vb] w fun e w' => e = .returned (.int .i64 (cmpKs xs ys)) ∧ Below w.heap.size w w' := by
  obtain ⟨a1, c1, rfl, hn1, h1⟩ := ha
  obtain ⟨a2, c2, rfl, hn2, h2⟩ := hb
  unfold mostLen at hn1 hn2
  go_enter Tryz.func115, Tryz.ntmps115
  go_wp2
  go_loopw [5] (fun i wr => ∃ k : Nat, k ≤ xs.length ∧ k ≤ ys.length ∧ i = .int .i64 k ∧ Below w.heap.size w wr ∧ cmpKs xs ys = cmpKs (xs.drop k) (ys.drop k)) (fun i _ => xs.length - (intOf i).toNat)
  case atStart => exact ⟨0, Nat.zero_le _, Nat.zero_le _, rfl, Below.refl _ _, rfl⟩
  case round =>
    obtain ⟨k, hk1, hk2, rfl, hbel, hcm⟩ := hrel
    by_cases hlt1 : k < xs.length
    · by_cases hlt2 : k < ys.length
      · obtain ⟨b1, o1, rfl, hs1, q1⟩ := h1.resolve_left (by omega)
        obtain ⟨b2, o2, rfl, hs2, q2⟩ := h2.resolve_left (by omega)
        have g1 := (KCells.at xs o1 k hlt1 q1).1
        have g2 := (KCells.at ys o2 k hlt2 q2).1
        rw [← hbel.cell (p := ⟨b1, o1 + k, none⟩) (hS b1 hs1)] at g1
        rw [← hbel.cell (p := ⟨b2, o2 + k, none⟩) (hS b2 hs2)] at g2
        rw [cmpKs_drop xs ys k hlt1 hlt2] at hcm
        go_wp2_with fail
        go_quiet ((go_at_call 113; exact Calls.quiet_of_same (texts_ok _ _ _)))
        by_cases hc : cmpS xs[k] ys[k] = 0
        · rw [if_pos hc] at hcm
          have HC : Hid (cmpKs xs ys = cmpKs (xs.drop (k + 1)) (ys.drop (k + 1))) := hcm
          have hcb : (cmpS xs[k] ys[k] != 0) = false := by simp [hc]
          clear hc hcm
          go_wp2
          go_roundw
          case rel => exact ⟨k + 1, by omega, by omega, by go_num, below_drewN hbel _, HC.out⟩
          case measure => simp [intOf]; omega
        · rw [if_neg hc] at hcm
          have HC : Hid (cmpKs xs ys = cmpS xs[k] ys[k]) := hcm
          have hcb : (cmpS xs[k] ys[k] != 0) = true := by simp [hc]
          clear hc hcm
          go_wp2
          go_ret
          exact ⟨by rw [HC.out]; rfl, below_drewN hbel _⟩
      · have he : k = ys.length := by omega
        have HC : Hid (cmpKs xs ys = (xs.length : Int) - ys.length) := hcm.trans (cmpKs_end xs ys k hk1 hk2 (.inr he))
        clear hcm he
        go_wp2
        go_ret
        exact ⟨by rw [HC.out]; rfl, hbel⟩
    · have he : k = xs.length := by omega
      have HC : Hid (cmpKs xs ys = (xs.length : Int) - ys.length) := hcm.trans (cmpKs_end xs ys k hk1 hk2 (.inl he))
      clear hcm he
      go_wp2
      go_ret
      exact ⟨by rw [HC.out]; rfl, hbel⟩
set_option maxRecDepth 100000 in
set_option maxHeartbeats 400000 in
theorem lists_ok (xs ys : List J) (hx : ∀ x ∈ xs, x.ok ∧ CmpOk x) (hy : ∀ y ∈ ys, y.ok) (w : World) (S : Nat → Prop) (hS : ∀ b, S b → b < w.heap.size) (va vb : Value) (ha : JSl w S xs va) (hb : JSl w S ys vb) :
   Calls Tryz.prog 114 #[va, vb] w fun e w' => e = .returned (.int .i64 (cmpL xs ys)) ∧ Below w.heap.size w w' := by
  obtain ⟨a1, c1, rfl, hn1, h1⟩ := ha.at
  obtain ⟨a2, c2, rfl, hn2, h2⟩ := hb.at
  unfold mostLen at hn1 hn2
  go_enter Tryz.func114, Tryz.ntmps114
  go_wp2
  go_loopw [5] (fun i wr => ∃ k : Nat, k ≤ xs.length ∧ k ≤ ys.length ∧ i = .int .i64 k ∧ Below w.heap.size w wr ∧ cmpL xs ys = cmpL (xs.drop k) (ys.drop k)) (fun i _ => xs.length - (intOf i).toNat)
  case atStart => exact ⟨0, Nat.zero_le _, Nat.zero_le _, rfl, Below.refl _ _, rfl⟩
  case round =>
    obtain ⟨k, hk1, hk2, rfl, hbel, hcm⟩ := hrel
    by_cases hlt1 : k < xs.length
    · by_cases hlt2 : k < ys.length
      · obtain ⟨b1, o1, rfl, hs1, d0, d1, d2, d3, d4, d5, g0, g1, g2, g3, g4, g5, hr1⟩ := h1 k hlt1
        obtain ⟨b2, o2, rfl, hs2, e0, e1, e2, e3, e4, e5, f0, f1, f2, f3, f4, f5, hr2⟩ := h2 k hlt2
        have G := fun o => hbel.cell (p := ⟨b1, o, none⟩) (hS b1 hs1)
        have F := fun o => hbel.cell (p := ⟨b2, o, none⟩) (hS b2 hs2)
        rw [← G] at g0 g1 g2 g3 g4 g5
        rw [← F] at f0 f1 f2 f3 f4 f5
        clear G F
        rw [cmpL_drop xs ys k hlt1 hlt2] at hcm
        have hX := hx xs[k] (List.getElem_mem hlt1)
        have hY := hy ys[k] (List.getElem_mem hlt2)
        have hC : Calls Tryz.prog 86 #[.agg #[d0, d1, d2, d3, d4, d5], .agg #[e0, e1, e2, e3, e4, e5]] wr.drew fun e w' => e = .returned (.int .i64 (cmpJ xs[k] ys[k])) ∧ Below wr.drew.heap.size wr.drew w' :=
          hX.2 ys[k] wr.drew S _ _ hX.1 hY (fun b hb => Nat.lt_of_lt_of_le (hS b hb) hbel.size) (hr1.below hbel.drew hS) (hr2.below hbel.drew hS)
        have HH := Lib.hid hcm
        clear hcm hX hY hr1 hr2 hx hy h1 h2 ha hb
        have HC := Lib.hid hC
        clear hC
        go_wp2_with fail
        go_still_tail 8, (by kernel_rfl)
        change wpList _ _ _ _ _ wr.drew
        by_cases hc : cmpJ xs[k] ys[k] = 0
        · have HC2 : Hid (cmpL xs ys = cmpL (xs.drop (k + 1)) (ys.drop (k + 1))) := by rw [HH.out, if_pos hc]; rfl
          have hcb : (cmpJ xs[k] ys[k] != 0) = false := by simp [hc]
          clear hc HH
          go_wp2_with (go_at_call 86; refine HC.out.mono ?_; rintro e w' ⟨rfl, hb'⟩)
          go_roundw
          case rel => exact ⟨k + 1, by omega, by omega, by go_num, (hbel.drew).trans (hb'.mono (by simpa using hbel.size)), HC2.out⟩
          case measure => simp [intOf]; omega
        · have HC2 : Hid (cmpL xs ys = cmpJ xs[k] ys[k]) := by rw [HH.out, if_neg hc]; rfl
          have hcb : (cmpJ xs[k] ys[k] != 0) = true := by simp [hc]
          clear hc HH
          go_wp2_with (go_at_call 86; refine HC.out.mono ?_; rintro e w' ⟨rfl, hb'⟩)
          go_ret
          exact ⟨by rw [HC2.out]; rfl, (hbel.drew).trans (hb'.mono (by simpa using hbel.size))⟩
      · have he : k = ys.length := by omega
        have HC : Hid (cmpL xs ys = (xs.length : Int) - ys.length) := hcm.trans (cmpL_end xs ys k hk1 hk2 (.inr he))
        clear hcm he
        go_wp2
        go_ret
        exact ⟨by rw [HC.out]; rfl, hbel⟩
    · have he : k = xs.length := by omega
      have HC : Hid (cmpL xs ys = (xs.length : Int) - ys.length) := hcm.trans (cmpL_end xs ys k hk1 hk2 (.inl he))
      clear hcm he
      go_wp2
      go_ret
      exact ⟨by rw [HC.out]; rfl, hbel⟩

set_option maxRecDepth 100000 in
set_option maxHeartbeats 400000 in
theorem Cmp_step (x : J) (ih : ∀ z : J, SizeOf.sizeOf z < SizeOf.sizeOf x → CmpOk z) : CmpOk x := by
  intro y w S va vb hx hy hS ha hb
  obtain ⟨s1, s2, s3, rfl, ht, hl, hk, hv⟩ := ha.parts
  obtain ⟨r1, r2, r3, rfl, ht', hl', hk', hv'⟩ := hb.parts
  have k1 := kind_lo x; have k2 := kind_hi x; have k3 := kind_lo y; have k4 := kind_hi y
  obtain ⟨g1, g2⟩ := ok_half hx
  obtain ⟨g3, g4⟩ := ok_half hy
  have HB := Lib.hid (below2 w (.cells #[.int .i64 x.kind, .int .i64 x.half, .string x.text, s1, s2, s3] 26) (.cells #[.int .i64 y.kind, .int .i64 y.half, .string y.text, r1, r2, r3] 26))
  by_cases hne : x.kind = y.kind
  · have t1 : (x.kind != y.kind) = false := by simp [hne]
    by_cases c3 : x.kind = 3
    · have e : cmpJ x y = sgn (x.half - y.half) := cmpJ_3 c3 (by omega)
      rw [e]
      have t2 : (x.kind == 3) = true := by simp [c3]
      clear e hne c3 ha hb hl hk hv hl' hk' hv' ih
      go_enter Tryz.func86, Tryz.ntmps86
      go_wp2_with (go_at_call 112; refine (sign_ok _ _).mono ?_; rintro e w' ⟨rfl, rfl⟩)
      go_ret
      exact ⟨rfl, HB.out⟩
    · have t2 : (x.kind == 3) = false := by simp [c3]
      by_cases c4 : x.kind = 4
      · have e : cmpJ x y = cmpS x.text y.text := cmpJ_4 c4 (by omega)
        rw [e]
        have t3 : (x.kind == 4) = true := by simp [c4]
        clear e hne c3 c4 ha hb hl hk hv hl' hk' hv' ih
        go_enter Tryz.func86, Tryz.ntmps86
        go_wp2_with (go_at_call 113; refine (texts_ok _ _ _).mono ?_; rintro e w' ⟨rfl, rfl⟩)
        go_ret
        exact ⟨rfl, HB.out⟩
      · have t3 : (x.kind == 4) = false := by simp [c4]
        by_cases c5 : x.kind = 5
        · have e : cmpJ x y = sgn (cmpL x.list y.list) := cmpJ_5 c5 (by omega)
          rw [e]
          have t4 : (x.kind == 5) = true := by simp [c5]
          have HC := Lib.hid (lists_ok x.list y.list (fun z hz => ⟨(ok_list hx).2 z hz, ih z (list_lt hz)⟩) (ok_list hy).2 _ S (lt_below HB.out hS) _ _ (hl.below HB.out hS) (hl'.below HB.out hS))
          clear e hne c3 c4 c5 ha hb hl hk hv hl' hk' hv' ih
          go_enter Tryz.func86, Tryz.ntmps86
          go_wp2_with (first | (go_at_call 112; refine (sign_ok _ _).mono ?_; rintro e w' ⟨rfl, rfl⟩) | (go_at_call 114; refine HC.out.mono ?_; rintro e w' ⟨rfl, hb'⟩))
          go_ret
          exact ⟨rfl, HB.out.trans (hb'.mono HB.out.size)⟩
        · have t4 : (x.kind == 5) = false := by simp [c5]
          by_cases c6 : x.kind = 6
          · have e : cmpJ x y = if cmpKs x.keys y.keys = 0 then sgn (cmpL x.vals y.vals) else sgn (cmpKs x.keys y.keys) := cmpJ_6 c6 (by omega)
            have t5 : (x.kind == 6) = true := by simp [c6]
            have HK := Lib.hid (keys_ok _ S (lt_below HB.out hS) x.keys y.keys _ _ (hk.below HB.out hS) (hk'.below HB.out hS))
            by_cases hz : cmpKs x.keys y.keys = 0
            · rw [if_pos hz] at e
              rw [e]
              have t6 : (cmpKs x.keys y.keys != 0) = false := by simp [hz]
              have HC : ∀ w2, Below w.heap.size w w2 → Hid (Calls Tryz.prog 114 #[s3, r3] w2 fun e w' => e = .returned (.int .i64 (cmpL x.vals y.vals)) ∧ Below w2.heap.size w2 w') := fun w2 h2 =>
                Lib.hid (lists_ok x.vals y.vals (fun z hz => ⟨(ok_vals hx).2 z hz, ih z (vals_lt hz)⟩) (ok_vals hy).2 _ S (lt_below h2 hS) _ _ (hv.below h2 hS) (hv'.below h2 hS))
              have HC2 := Lib.hid HC
              clear HC e hne c3 c4 c5 c6 hz ha hb hl hk hv hl' hk' hv' ih
              go_enter Tryz.func86, Tryz.ntmps86
              go_wp2_with fail
              refine HK.out.mono ?_
              rintro e w' ⟨rfl, hb'⟩
              have HB2 := Lib.hid (HB.out.trans (hb'.mono HB.out.size))
              have hc0 := hb'.cell (p := ⟨w.heap.size, 5, none⟩) (by simp; omega)
              have hc1 := hb'.cell (p := ⟨w.heap.size + 1, 5, none⟩) (by simp)
              have hq0 : w'.cell? ⟨w.heap.size, 5, none⟩ = some s3 := hc0.trans (by rw [World.cell?_alloc_lt _ _ _ (by simp)]; simp)
              have hq1 : w'.cell? ⟨w.heap.size + 1, 5, none⟩ = some r3 := hc1.trans (by simp)
              clear hc0 hc1 hb'
              go_wp2_with (first | (go_at_call 112; refine (sign_ok _ _).mono ?_; rintro e w' ⟨rfl, rfl⟩) | (go_at_call 114; refine (HC2.out _ HB2.out).out.mono ?_; rintro e w' ⟨rfl, hb'⟩))
              go_ret
              exact ⟨rfl, HB2.out.trans (hb'.mono HB2.out.size)⟩
            · rw [if_neg hz] at e
              rw [e]
              have t6 : (cmpKs x.keys y.keys != 0) = true := by simp [hz]
              clear e hne c3 c4 c5 c6 hz ha hb hl hk hv hl' hk' hv' ih
              go_enter Tryz.func86, Tryz.ntmps86
              go_wp2_with (first | (go_at_call 112; refine (sign_ok _ _).mono ?_; rintro e w' ⟨rfl, rfl⟩) | (go_at_call 115; refine HK.out.mono ?_; rintro e w' ⟨rfl, hb'⟩))
              go_ret
              exact ⟨rfl, HB.out.trans (hb'.mono HB.out.size)⟩
          · have e : cmpJ x y = 0 := cmpJ_0 hne (by omega)
            rw [e]
            have t5 : (x.kind == 6) = false := by simp [c6]
            clear e hne c3 c4 c5 c6 ha hb hl hk hv hl' hk' hv' ih
            go_enter Tryz.func86, Tryz.ntmps86
            go_wp2_with fail
            go_ret
            exact ⟨rfl, HB.out⟩
  · have e : cmpJ x y = sgn (x.kind - y.kind) := cmpJ_ne hne
    rw [e]
    have t1 : (x.kind != y.kind) = true := by simp [hne]
    clear e hne ha hb hl hk hv hl' hk' hv' ih
    go_enter Tryz.func86, Tryz.ntmps86
    go_wp2_with (go_at_call 112; refine (sign_ok _ _).mono ?_; rintro e w' ⟨rfl, rfl⟩)
    go_ret
    exact ⟨rfl, HB.out⟩

theorem Cmp_all (n : Nat) : ∀ x : J, SizeOf.sizeOf x < n → CmpOk x := by
  induction n with
  | zero => intro x h; omega
  | succ n ih => exact fun x h => Cmp_step x fun z hz => ih z (by omega)
theorem Cmp_ok (x : J) : CmpOk x := Cmp_all _ x (Nat.lt_succ_self _)

#print axioms Cmp_ok
end Go.Gj

/-
  The small functions of the laws: zzFits1, zzFits2, fits, array, straight, told, given; spec.Fit, spec.Same.
-/
namespace Go.Gj
open Go Go.RowKit Go.Proofs

theorem value_all (n : Nat) : ∀ v : V, SizeOf.sizeOf v < n → ValOk v := by
  induction n with
  | zero => intro v h; omega
  | succ n ih =>
    rintro ⟨k, h, t, l, ks, vs⟩ hn
    refine value_step k h t l ks vs (fun x hx => ih x ?_) (fun x hx => ih x ?_)
    · have := List.sizeOf_lt_of_mem hx; simp at hn; omega
    · have := List.sizeOf_lt_of_mem hx; simp at hn; omega
theorem value_ok (v : V) : ValOk v := value_all _ v (Nat.lt_succ_self _)

theorem Tabs.size {w : World} (h : Tabs w) : 2 ≤ w.heap.size := h.lt
theorem LK.new (w : World) (p q : Int) (bad : Bool) : LK (w.alloc (.cells #[.int .i64 p, .int .i64 q, .bool bad] 76)) w.heap.size p q bad := by
  unfold LK; rw [show (w.alloc (.cells #[.int .i64 p, .int .i64 q, .bool bad] 76)).heap = w.heap.push (.cells #[.int .i64 p, .int .i64 q, .bool bad] 76) from rfl]; simp

theorem zero_size : ByteArray.empty.size = 0 := rfl

/-- spec.Fit. -/
theorem Fit_fit (v : V) (w : World) (S : Nat → Prop) (val : Value) (hT : Tabs w) (hS : ∀ b, S b → b < w.heap.size) (h : VRep w S v val) :
    Calls Tryz.prog 47 #[val] w fun e w' => ∃ r, e = .returned (.bool r) ∧ Below w.heap.size w w' ∧ (r = true → ∃ x : J, x.fit ∧ v = x.toV) := by
  obtain ⟨k, h0, t, l, ks, vs⟩ := v
  have h' := h
  obtain ⟨s1, s2, s3, rfl, ht, _, _, _, _, _⟩ := h'
  have hb1 := below1 w (.cells #[.int .i64 k, .int .i64 h0, .string t, s1, s2, s3] 26)
  have hB := Box.new w k h0 t s1 s2 s3
  have H := Lib.hid h
  have HB := Lib.hid hB
  have HB1 := Lib.hid hb1
  have HT := Lib.hid hT
  clear h hB hb1 hT
  go_enter Tryz.func47, Tryz.ntmps47
  go_wp2_with fail
  have hl : LK ((w.alloc (.cells #[.int .i64 k, .int .i64 h0, .string t, s1, s2, s3] 26)).alloc (.cells #[.int .i64 0, .int .i64 0, .bool false] 76)) (w.heap.size + 1) 0 0 false := by
    have := LK.new (w.alloc (.cells #[.int .i64 k, .int .i64 h0, .string t, s1, s2, s3] 26)) 0 0 false
    rwa [World.size_alloc] at this
  have hb2 := below2 w (.cells #[.int .i64 k, .int .i64 h0, .string t, s1, s2, s3] 26) (.cells #[.int .i64 0, .int .i64 0, .bool false] 76)
  refine (value_ok (.mk k h0 t l ks vs) _ S (w.heap.size + 1) 0 0 0 _ (HT.out.below hb2) (by have := HT.out.size; omega) hl (VRep.keep (.of_below hb2 hS) (fun _ h => h) _ _ H.out) (fun b hb => ⟨by have := hS b hb; simp; omega, by have := hS b hb; omega⟩) (by omega) (by omega) (by omega) (by omega) (by omega) (by omega)).mono ?_
  rintro e w' ⟨rfl, hx, p', q', bad', hl', hc'⟩
  have c2 := hl'.c2
  have HX := Lib.hid (hb2.trans (hx.below (by simp; omega) (by omega)))
  have HC := Lib.hid hc'
  clear hl hb2 hx hl' hc'
  go_wp2_with fail
  go_ret
  refine ⟨!bad', rfl, HX.out, fun h => ?_⟩
  exact (HC.out (by simpa using h)).2.2.2.2

theorem Fit_ok (v : V) (w : World) (S : Nat → Prop) (val : Value) (hT : Tabs w) (hS : ∀ b, S b → b < w.heap.size) (h : VRep w S v val) :
    Calls Tryz.prog 47 #[val] w fun e w' => ∃ r, e = .returned (.bool r) ∧ Below w.heap.size w w' ∧ (r = true → ∃ x : J, x.ok ∧ v = x.toV) := by
  refine (Fit_fit v w S val hT hS h).mono ?_
  rintro e w' ⟨r, rfl, hb, hr⟩
  exact ⟨r, rfl, hb, fun e => by obtain ⟨x, hx, hv⟩ := hr e; exact ⟨x, fit_ok hx, hv⟩⟩

theorem array_ok (sl : Value) (a : Option Addr) (n c : Nat) (w : World) (hs : sl = .slice a n c) :
    Calls Tryz.prog 12 #[sl] w fun e w' => e = .returned (.agg #[.int .i64 5, .int .i64 0, .string ⟨#[]⟩, sl, .slice none 0 0, .slice none 0 0]) ∧ Below w.heap.size w w' := by
  subst hs
  have HB := Lib.hid (below1 w (.cells #[.int .i64 5, .int .i64 0, .string ⟨#[]⟩, .slice a n c, .slice none 0 0, .slice none 0 0] 26))
  go_enter Tryz.func12, Tryz.ntmps12
  go_wp2
  exact bodyPost_ret (v := .agg #[.int .i64 5, .int .i64 0, .string ⟨#[]⟩, .slice a n c, .slice none 0 0, .slice none 0 0]) (by simp [results, Tryz.results12, go_sem]) rfl ⟨rfl, HB.out⟩

/-- spec.Same. -/
theorem Same_ok (x y : J) (w : World) (S : Nat → Prop) (va vb : Value) (hx : x.ok) (hy : y.ok) (hS : ∀ b, S b → b < w.heap.size) (ha : JRep w S x va) (hb : JRep w S y vb) :
    Calls Tryz.prog 61 #[va, vb] w fun e w' => e = .returned (.bool (cmpJ x y == 0)) ∧ Below w.heap.size w w' := by
  obtain ⟨s1, s2, s3, rfl, _⟩ := ha.parts
  obtain ⟨r1, r2, r3, rfl, _⟩ := hb.parts
  have HB := Lib.hid (below2 w (.cells #[.int .i64 x.kind, .int .i64 x.half, .string x.text, s1, s2, s3] 26) (.cells #[.int .i64 y.kind, .int .i64 y.half, .string y.text, r1, r2, r3] 26))
  have HC := Lib.hid (Cmp_ok x y _ S _ _ hx hy (lt_below HB.out hS) (ha.below HB.out hS) (hb.below HB.out hS))
  clear ha hb
  go_enter Tryz.func61, Tryz.ntmps61
  go_wp2_with (go_at_call 86; refine HC.out.mono ?_; rintro e w' ⟨rfl, hb'⟩)
  go_ret
  exact ⟨rfl, HB.out.trans (hb'.mono HB.out.size)⟩

/-- A record impl.Res. -/
def ResV (c0 c1 c2 c3 c4 c5 : Value) (en : Int) : Value := .agg #[c0, c1, c2, c3, c4, c5, .int .i64 en]

/-- laws.told: how 0: fine; 1: raises; 2: silent. -/
theorem told_fine (x y : J) (en : Int) (w : World) (S : Nat → Prop) (c0 c1 c2 c3 c4 c5 vb : Value) (hx : x.ok) (hy : y.ok) (hS : ∀ b, S b → b < w.heap.size) (ha : JRep w S x (.agg #[c0, c1, c2, c3, c4, c5])) (hb : JRep w S y vb) (he : -10 ≤ en ∧ en ≤ 10) :
    Calls Tryz.prog 26 #[.agg #[c0, c1, c2, c3, c4, c5, .int .i64 en], vb, .int .i64 0] w fun e w' => e = .returned (.bool (en == 0 && cmpJ x y == 0)) ∧ Below w.heap.size w w' := by
  obtain ⟨r1, r2, r3, rfl, _⟩ := hb.parts
  have HB := Lib.hid (below2 w (.cells #[c0, c1, c2, c3, c4, c5, .int .i64 en] 35) (.cells #[.int .i64 y.kind, .int .i64 y.half, .string y.text, r1, r2, r3] 26))
  have HC := Lib.hid (Same_ok x y _ S _ _ hx hy (lt_below HB.out hS) (ha.below HB.out hS) (hb.below HB.out hS))
  clear ha hb
  by_cases h0 : en = 0
  · subst h0
    go_enter Tryz.func26, Tryz.ntmps26
    go_wp2_with (go_at_call 61; refine HC.out.mono ?_; rintro e w' ⟨rfl, hb'⟩)
    go_ret
    exact ⟨by simp, HB.out.trans (hb'.mono HB.out.size)⟩
  · have hb0 : (en == 0) = false := by simp [h0]
    clear h0
    go_enter Tryz.func26, Tryz.ntmps26
    go_wp2_with (go_at_call 61; refine HC.out.mono ?_; rintro e w' ⟨rfl, hb'⟩)
    go_ret
    exact ⟨by simp [hb0], HB.out⟩

theorem given_ok (x y : J) (en : Int) (w : World) (S : Nat → Prop) (c0 c1 c2 c3 c4 c5 vb : Value) (hx : x.ok) (hy : y.ok) (hS : ∀ b, S b → b < w.heap.size) (ha : JRep w S x (.agg #[c0, c1, c2, c3, c4, c5])) (hb : JRep w S y vb) (he : -10 ≤ en ∧ en ≤ 10) :
    Calls Tryz.prog 17 #[.agg #[c0, c1, c2, c3, c4, c5, .int .i64 en], vb] w fun e w' => e = .returned (.bool (en == 0 && cmpJ x y == 0)) ∧ Below w.heap.size w w' := by
  obtain ⟨r1, r2, r3, rfl, _⟩ := hb.parts
  have HB := Lib.hid (below2 w (.cells #[c0, c1, c2, c3, c4, c5, .int .i64 en] 35) (.cells #[.int .i64 y.kind, .int .i64 y.half, .string y.text, r1, r2, r3] 26))
  have HC := Lib.hid (told_fine x y en _ S _ _ _ _ _ _ _ hx hy (lt_below HB.out hS) (ha.below HB.out hS) (hb.below HB.out hS) he)
  clear ha hb
  go_enter Tryz.func17, Tryz.ntmps17
  go_wp2_with (go_at_call 26; refine HC.out.mono ?_; rintro e w' ⟨rfl, hb'⟩)
  go_ret
  exact ⟨rfl, HB.out.trans (hb'.mono HB.out.size)⟩
end Go.Gj
