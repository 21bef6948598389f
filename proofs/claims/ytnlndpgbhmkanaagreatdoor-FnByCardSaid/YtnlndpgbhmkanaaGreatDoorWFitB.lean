/-
  A region that draws its order: all but its tail only read; the tail stands in one order. (Over the kit's still walk, by the kit's quiet steps.)
-/
import Derived.Test.YtnlndpgbhmkanaaGreatDoorKitX
import Derived.Test.YtnlndpgbhmkanaaGreatDoorWFitA
namespace Go
section
variable {P : Program} {ops : Array Oper} {w : World}

theorem still_of_quiet {o : Oper} {a : Act} {K K' : Act → Prop} (hK : ∀ a, K a → K' a) (h : o.quiet P a (fun w' => w' = w) K) : o.still P a w K' := by
  obtain ⟨v, h1, h2⟩ := h
  have h1 := h1 w rfl
  unfold Oper.still
  unfold Oper.quietAt at h1
  generalize (execOp a.eval o).run P w = r at h1 ⊢
  cases r with
  | ok n w' =>
    cases n <;> simp only [Oper.quietUpon] at h1 <;> simp only [Oper.stillUpon]
    · obtain ⟨h3, rfl⟩ := h1; exact ⟨h3, hK _ h2⟩
    · obtain ⟨h3, rfl⟩ := h1; exact ⟨h3, hK _ h2⟩
    · obtain ⟨h3, h4⟩ := h1; exact ⟨h3, v, h4, hK _ h2⟩
  | halt h w' => simp only [Oper.quietUpon] at h1

theorem wpStill_of_quiet {Q : Act → Prop} : ∀ (l : List Oper) (a : Act), wpQuiet P ops (fun w' => w' = w) Q l a → wpStill P ops w Q l a
  | [], _, h => h
  | o :: rest, a, h => by
    unfold wpQuiet at h
    unfold wpStill
    split
    · rename_i hw; rw [if_pos hw] at h; exact still_of_quiet (fun a => wpStill_of_quiet rest a) h
    · rename_i hw; rw [if_neg hw] at h; exact wpStill_of_quiet rest _ h

theorem wp_region_quiet_tail {id : Nat} {Q : Exit → Act → World → Prop} {a : Act} {w : World} {l : List Oper} (n : Nat) (hm : P.follows .mixedOrders = true) (hB : Region.lexTailB .any l.toArray n = true)
    (h : wpQuiet P l.toArray (fun w' => w' = w.drew) (fun a' => wpList P l.toArray Q (l.drop n) a' w.drew) (l.take n) a) : (Code.region id l.toArray true).wp P Q a w :=
  wp_region_still_tail n hm hB (wpStill_of_quiet _ _ h)
end
end Go

/-
  spec.looker.value: what it lets by stands for a value of JSON.
-/
namespace Go.Gj
open Go Go.RowKit Go.Proofs

/-- A block that holds a record. -/
def Box (w : World) (B : Nat) (k h : Int) (t : ByteArray) (s1 s2 s3 : Value) : Prop := w.heap[B]? = some (.cells #[.int .i64 k, .int .i64 h, .string t, s1, s2, s3] 26)
theorem Box.c {w : World} {B : Nat} {k h : Int} {t : ByteArray} {s1 s2 s3 : Value} (hb : Box w B k h t s1 s2 s3) :
    w.cell? ⟨B, 0, none⟩ = some (.int .i64 k) ∧ w.cell? ⟨B, 1, none⟩ = some (.int .i64 h) ∧ w.cell? ⟨B, 2, none⟩ = some (.string t) ∧
    w.cell? ⟨B, 3, none⟩ = some s1 ∧ w.cell? ⟨B, 4, none⟩ = some s2 ∧ w.cell? ⟨B, 5, none⟩ = some s3 := by
  unfold Box at hb; simp [World.cell?, hb]
theorem Box.new (w : World) (k h : Int) (t : ByteArray) (s1 s2 s3 : Value) : Box (w.alloc (.cells #[.int .i64 k, .int .i64 h, .string t, s1, s2, s3] 26)) w.heap.size k h t s1 s2 s3 := by
  unfold Box; rw [show (w.alloc (.cells #[.int .i64 k, .int .i64 h, .string t, s1, s2, s3] 26)).heap = w.heap.push (.cells #[.int .i64 k, .int .i64 h, .string t, s1, s2, s3] 26) from rfl]; simp
theorem Box.bex {w w' : World} {B b : Nat} {k h : Int} {t : ByteArray} {s1 s2 s3 : Value} (hb : Box w B k h t s1 s2 s3) (hx : Bex b w w') (hn : B ≠ b) : Box w' B k h t s1 s2 s3 :=
  (hx.block B (by unfold Box at hb; exact (Array.getElem?_eq_some_iff.1 hb).1) hn).trans hb

def Cond1 (k h : Int) (t : ByteArray) (n1 n2 n3 : Nat) : Prop := 0 ≤ k ∧ k ≤ 6 ∧ (k = 3 ∨ h = 0) ∧ (k = 4 ∨ t.toList.isEmpty = true) ∧ (k = 5 ∨ n1 = 0) ∧ (k = 6 ∨ n2 = 0) ∧ n2 = n3
def Cond2 (h : Int) : Prop := -18014398509481984 ≤ h ∧ h ≤ 18014398509481984 ∧ (h.tmod 2 = 0 ∨ (-9007199254740992 < h ∧ h < 9007199254740992))


theorem toVs_of (l : List V) (h : ∀ x ∈ l, ∃ y : J, y.fit ∧ x = y.toV) : ∃ js : List J, l = J.toVs js ∧ J.oksn 2000 js ∧ js.length = l.length := by
  induction l with
  | nil => exact ⟨[], rfl, trivial, rfl⟩
  | cons x xs ih =>
    obtain ⟨y, hy, rfl⟩ := h x (List.mem_cons_self)
    obtain ⟨js, rfl, hj, hl⟩ := ih fun z hz => h z (List.mem_cons_of_mem _ hz)
    exact ⟨y :: js, rfl, ⟨hy, hj⟩, by simp [hl]⟩

theorem empty_of (t : ByteArray) (h : t.toList.isEmpty = true) : t = (⟨#[]⟩ : ByteArray) := by
  have : t.toList = [] := by simpa using h
  rw [ByteArray.toList_eq] at this
  rcases t with ⟨⟨l⟩⟩
  simp at this
  subst this; rfl

theorem mk_fits (k h : Int) (t : ByteArray) (l : List V) (ks : List ByteArray) (vs : List V) (c1 : Cond1 k h t l.length ks.length vs.length) (c2 : Cond2 h) (ht : (t.size : Int) ≤ 2000)
    (hl : (l.length : Int) ≤ 400) (hk : (ks.length : Int) ≤ 400) (hl2 : ∀ x ∈ l, ∃ y : J, y.fit ∧ x = y.toV) (hv2 : ∀ x ∈ vs, ∃ y : J, y.fit ∧ x = y.toV) (hks : ∀ x ∈ ks, x.size ≤ 2000) (hr : rises ks) :
    ∃ x : J, x.fit ∧ V.mk k h t l ks vs = x.toV := by
  obtain ⟨k0, k6, ch, ct, cl, ck, hlen⟩ := c1
  have hh : ¬ k = 3 → h = 0 := fun hn => ch.resolve_left hn
  have htx : ¬ k = 4 → t = (⟨#[]⟩ : ByteArray) := fun hn => empty_of t (ct.resolve_left hn)
  have hlx : ¬ k = 5 → l = [] := fun hn => List.length_eq_zero_iff.1 (cl.resolve_left hn)
  have hkx : ¬ k = 6 → ks = [] ∧ vs = [] := fun hn => by
    have := ck.resolve_left hn
    exact ⟨List.length_eq_zero_iff.1 this, List.length_eq_zero_iff.1 (by omega)⟩
  by_cases c3 : k = 3
  · subst c3
    rw [htx (by decide), hlx (by decide), (hkx (by decide)).1, (hkx (by decide)).2]
    refine ⟨.num h, ?_, rfl⟩
    obtain ⟨m1, m2, m3⟩ := c2
    refine ⟨m1, m2, ?_⟩
    rcases m3 with m3 | m3
    · left
      have := Int.dvd_of_tmod_eq_zero m3
      omega
    · right; omega
  · have h0 := hh c3
    subst h0
    by_cases c4 : k = 4
    · subst c4
      rw [hlx (by decide), (hkx (by decide)).1, (hkx (by decide)).2]
      refine ⟨.str t, ?_, rfl⟩
      show t.size ≤ 2000
      omega
    · have t0 := htx c4
      subst t0
      by_cases c5 : k = 5
      · subst c5
        rw [(hkx (by decide)).1, (hkx (by decide)).2]
        obtain ⟨js, rfl, hj, hjl⟩ := toVs_of l hl2
        refine ⟨.arr js, ⟨?_, hj⟩, rfl⟩
        omega
      · rw [hlx c5]
        by_cases c6 : k = 6
        · subst c6
          obtain ⟨js, rfl, hj, hjl⟩ := toVs_of vs hv2
          refine ⟨.obj ks js, ⟨by omega, by omega, hr, fun x hx => by have := hks x hx; omega, hj⟩, rfl⟩
        · rw [(hkx c6).1, (hkx c6).2]
          rcases (show k = 0 ∨ k = 1 ∨ k = 2 by omega) with rfl | rfl | rfl
          · exact ⟨.null, trivial, rfl⟩
          · exact ⟨.bool false, trivial, rfl⟩
          · exact ⟨.bool true, trivial, rfl⟩

theorem rises_snoc (l : List ByteArray) (x : ByteArray) (hr : rises l) (hs : ∀ y, l.getLast? = some y → slt y x = true) : rises (l ++ [x]) := by
  induction l with
  | nil => simp [rises]
  | cons a l ih =>
    cases l with
    | nil => exact ⟨hs a rfl, trivial⟩
    | cons b l => exact ⟨hr.1, ih hr.2 fun y hy => hs y (by simpa using hy)⟩

theorem rises_take (ks : List ByteArray) (k : Nat) (h : k < ks.length) (hr : rises (ks.take k)) (hs : k = 0 ∨ ∃ h1 : k - 1 < ks.length, slt ks[k - 1] ks[k] = true) : rises (ks.take (k + 1)) := by
  rw [List.take_succ_eq_append_getElem h]
  refine rises_snoc _ _ hr fun y hy => ?_
  rcases hs with rfl | ⟨h1, h2⟩
  · simp at hy
  · by_cases hk : k = 0
    · subst hk; simp at hy
    · have e : (ks.take k).getLast? = some ks[k - 1] := by
        rw [List.getLast?_eq_getElem?, List.length_take, Nat.min_eq_left (Nat.le_of_lt h), List.getElem?_take, if_pos (by omega), List.getElem?_eq_getElem h1]
      rw [e] at hy
      cases hy
      exact h2

def ValPost (v : V) (b : Nat) (p q : Int) (w : World) (e : Ending) (w' : World) : Prop :=
  e = .returned (.tuple #[]) ∧ Bex b w w' ∧ ∃ p' q' bad', LK w' b p' q' bad' ∧ (bad' = false → p + 1 ≤ p' ∧ p' ≤ 400 ∧ q ≤ q' ∧ q' ≤ 2000 ∧ ∃ x : J, x.fit ∧ v = x.toV)

def ValOk (v : V) : Prop := ∀ (w : World) (S : Nat → Prop) (b : Nat) (p q d : Int) (val : Value), Tabs w → 2 ≤ b → LK w b p q false → VRep w S v val → (∀ k, S k → k < w.heap.size ∧ k ≠ b) →
  0 ≤ p → p ≤ 400 → 0 ≤ q → q ≤ 2000 → 0 ≤ d → d ≤ 61 →
  Calls Tryz.prog 72 #[.pointer (some ⟨b, 0, none⟩), val, .int .i64 d] w (ValPost v b p q w)

theorem Tabs.bex {w w' : World} (h : Tabs w) {b : Nat} (hb : 2 ≤ b) (hx : Bex b w w') : Tabs w' :=
  h.of (hx.block 0 (by have := h.lt; omega) (by omega)) (hx.block 1 (by have := h.lt; omega) (by omega))

set_option maxRecDepth 100000 in
theorem value_bad (w : World) (b : Nat) (p q d : Int) (k h : Int) (t : ByteArray) (s1 s2 s3 : Value) (hl : LK w b p q true) (hp : 0 ≤ p) (hp2 : p ≤ 1000) :
    Calls Tryz.prog 72 #[.pointer (some ⟨b, 0, none⟩), .agg #[.int .i64 k, .int .i64 h, .string t, s1, s2, s3], .int .i64 d] w fun e w' => e = .returned (.tuple #[]) ∧ Bex b w w' ∧ LK w' b (p + 1) q true := by
  have hx0 : Bex b w (w.alloc (.cells #[.int .i64 k, .int .i64 h, .string t, s1, s2, s3] 26)) := Bex.of_below (below1 _ _)
  have HL := Lib.hid (hl.of_below (below1 w (.cells #[.int .i64 k, .int .i64 h, .string t, s1, s2, s3] 26)) hl.lt)
  have HX := Lib.hid hx0
  clear hx0 hl
  go_enter Tryz.func72, Tryz.ntmps72
  go_wp2_with fail
  refine (part_ok b p q d true _ HL.out hp (by omega)).mono ?_
  rintro e w1 ⟨bad1, rfl, hl1, hx1, hc1⟩
  cases bad1
  · simp at hc1
  · have HL1 := Lib.hid hl1
    clear hl1 hc1
    go_wp2_with fail
    refine bodyPost_ret (results_none rfl _ _ _) rfl ?_
    exact ⟨rfl, HX.out.trans hx1, HL1.out⟩

set_option maxRecDepth 100000 in
set_option maxHeartbeats 4000000 in
theorem value_step (k h : Int) (t : ByteArray) (l : List V) (ks : List ByteArray) (vs : List V) (ihl : ∀ x ∈ l, ValOk x) (ihv : ∀ x ∈ vs, ValOk x) : ValOk (.mk k h t l ks vs) := by
  intro w S b p q d val hT hb2' hl hrep hS hp hp2 hq hq2 hd hd2
  obtain ⟨s1, s2, s3, rfl, ht, ⟨hk1, hk2⟩, ⟨hh1, hh2⟩, hs1, hs2, hs3⟩ := hrep
  obtain ⟨a1, c1, rfl, hn1, r1⟩ := hs1
  obtain ⟨a2, c2, rfl, hn2, r2⟩ := hs2
  obtain ⟨a3, c3, rfl, hn3, r3⟩ := hs3
  have HT := Lib.hid hT
  have HR1 := Lib.hid r1
  have HR2 := Lib.hid r2
  have HR3 := Lib.hid r3
  have Ht := Lib.hid ht
  unfold mostLen at hn1 hn2 hn3
  clear hT r1 r2 r3 ht
  have hx0 : Bex b w (w.alloc (.cells #[.int .i64 k, .int .i64 h, .string t, .slice a1 l.length c1, .slice a2 ks.length c2, .slice a3 vs.length c3] 26)) := Bex.of_below (below1 _ _)
  have hB0 := Box.new w k h t (.slice a1 l.length c1) (.slice a2 ks.length c2) (.slice a3 vs.length c3)
  have HL := Lib.hid (hl.of_below (below1 w (.cells #[.int .i64 k, .int .i64 h, .string t, .slice a1 l.length c1, .slice a2 ks.length c2, .slice a3 vs.length c3] 26)) hl.lt)
  have HX := Lib.hid hx0
  have HB := Lib.hid hB0
  have hbn : w.heap.size ≠ b := by have := hl.lt; omega
  clear hx0 hB0
  go_enter Tryz.func72, Tryz.ntmps72
  go_wp2_with fail
  refine (part_ok b p q d false _ HL.out hp (by omega)).mono ?_
  rintro e w1 ⟨bad1, rfl, hl1, hx1, hc1⟩
  cases bad1
  · obtain ⟨_, hp3, _, hd3⟩ := hc1 rfl
    clear hc1
    have HX1 := Lib.hid (HX.out.trans hx1)
    have hb1 := HB.out.bex hx1 hbn
    have HL1 := Lib.hid hl1
    have HB1 := Lib.hid hb1
    obtain ⟨g0, g1, g2, g3, g4, g5⟩ := hb1.c
    clear hl1 hx1 hb1 hl
    go_upto_region 2 with fail
    go_cut [1] (fun _ wx => ∃ bad2, LK wx b (p + 1) q bad2 ∧ Bex b w1 wx ∧ (bad2 = false → Cond1 k h t l.length ks.length vs.length))
    case first =>
      go_wp2_with (go_at_call 94; refine (want_ok b _ _ _ _ _ HL1.out).mono ?_; rintro e w' ⟨rfl, hl, hbx⟩)
      all_goals
        go_meet
        refine ⟨_, hl, hbx, fun hh => ?_⟩
        first
          | (simp at hh; done)
          | (simp at hh
             refine ⟨by omega, by omega, ?_, ?_, by omega, by omega, by omega⟩
             · first | (exact Or.inl (by omega)) | (exact Or.inr (by omega))
             · first | (exact Or.inl (by omega)) | (exact Or.inr (by assumption)))
    case rest =>
      obtain ⟨bad2, hl2, hx2, hc2⟩ := hcut
      have hb2 := HB1.out.bex hx2 hbn
      clear g0 g1 g2 g3 g4 g5
      obtain ⟨g0, g1, g2, g3, g4, g5⟩ := hb2.c
      have HL2 := Lib.hid hl2
      have HX2 := Lib.hid (HX1.out.trans hx2)
      have HB2 := Lib.hid hb2
      have HC2 := Lib.hid hc2
      clear hl2 hx2 hb2 hc2
      go_upto_region 3 with fail
      go_cut [1] (fun _ wx => ∃ bad3, LK wx b (p + 1) q bad3 ∧ Bex b wc wx ∧ (bad3 = false → bad2 = false ∧ Cond2 h))
      case first =>
        go_wp2_with (go_at_call 94; refine (want_ok b _ _ _ _ _ HL2.out).mono ?_; rintro e w' ⟨rfl, hl, hbx⟩)
        all_goals
          go_meet
          refine ⟨_, hl, hbx, fun hh => ?_⟩
          first
            | (simp at hh; done)
            | (simp at hh
               refine ⟨?_, by omega, by omega, ?_⟩
               · first | exact hh | exact hh.1
               · first | (exact Or.inl (by assumption)) | (exact Or.inr ⟨by omega, hh.2⟩))
      case rest =>
        obtain ⟨bad3, hl3, hx3, hc3⟩ := hcut
        have hb3 := HB2.out.bex hx3 hbn
        clear g0 g1 g2 g3 g4 g5
        obtain ⟨g0, g1, g2, g3, g4, g5⟩ := hb3.c
        have HL3 := Lib.hid hl3
        have HX3 := Lib.hid (HX2.out.trans hx3)
        have HB3 := Lib.hid hb3
        have HC3 : Hid (bad3 = false → Cond1 k h t l.length ks.length vs.length ∧ Cond2 h) := Lib.hid fun e => ⟨HC2.out (hc3 e).1, (hc3 e).2⟩
        clear hl3 hx3 hb3 hc3
        go_wp2_with fail
        refine (str_ok b (p + 1) q bad3 t _ HL3.out (fun w' hx => HT.out.bex hb2' (HX3.out.trans hx)) Ht.out hq (by omega)).mono ?_
        rintro e w4 ⟨rfl, bad4, hl4, hx4, hc4⟩
        have hb4 := HB3.out.bex hx4 hbn
        clear g0 g1 g2 g3 g4 g5
        obtain ⟨g0, g1, g2, g3, g4, g5⟩ := hb4.c
        have HL4 := Lib.hid hl4
        have HX4 := Lib.hid (HX3.out.trans hx4)
        have HB4 := Lib.hid hb4
        have HC4 : Hid (bad4 = false → Cond1 k h t l.length ks.length vs.length ∧ Cond2 h ∧ q + t.size ≤ 2000) := Lib.hid fun e => ⟨(HC3.out (hc4 e).1).1, (HC3.out (hc4 e).1).2, (hc4 e).2⟩
        clear hl4 hx4 hb4 hc4
        go_upto_block 0 with fail
        go_cut [6] (fun _ wx => ∃ p5 q5 bad5, LK wx b p5 q5 bad5 ∧ Bex b w4 wx ∧ (bad5 = false → bad4 = false ∧ p + 1 + l.length ≤ p5 ∧ p5 ≤ 400 ∧ q + t.size ≤ q5 ∧ q5 ≤ 2000 ∧ ∀ x ∈ l, ∃ y : J, y.fit ∧ x = y.toV))
        case first =>
          go_wp2_with fail
          go_loopw [6] (fun i wr => ∃ (kk : Nat) (px qx : Int) (badx : Bool), kk ≤ l.length ∧ i = .int .i64 kk ∧ LK wr b px qx badx ∧ Bex b w4 wr ∧ (badx = false → bad4 = false ∧ p + 1 + kk ≤ px ∧ px ≤ 400 ∧ q + t.size ≤ qx ∧ qx ≤ 2000 ∧ ∀ x ∈ l.take kk, ∃ y : J, y.fit ∧ x = y.toV)) (fun i _ => l.length - (intOf i).toNat)
          case atStart => exact ⟨0, p + 1, q + t.size, bad4, Nat.zero_le _, rfl, HL4.out, Bex.refl _ _, fun e => ⟨e, by omega, hp3, by omega, (HC4.out e).2.2, by simp⟩⟩
          case round =>
            obtain ⟨kk, px, qx, badx, hkk, rfl, hlx, hxx, hcx⟩ := hrel
            have hbx := HB4.out.bex hxx hbn
            clear g0 g1 g2 g3 g4 g5
            obtain ⟨g0, g1, g2, g3, g4, g5⟩ := hbx.c
            have k2 := hlx.c2
            have HLx := Lib.hid hlx
            have HXx := Lib.hid hxx
            have HCx := Lib.hid hcx
            clear hlx hcx hbx hxx
            by_cases hlt : kk < l.length
            · cases badx
              · obtain ⟨b1, o1, rfl, hsb, hcl⟩ := HR1.out.resolve_left (by omega)
                have hcl' := VCells.keep (((HX4.out.trans HXx.out).same hS)) (fun _ h => h) b1 hsb l o1 hcl
                obtain ⟨e0, e1, e2, e3, e4, e5, f0, f1, f2, f3, f4, f5, hel⟩ := hcl'.at l o1 kk hlt
                obtain ⟨_, hpx, hpx2, hqx, hqx2, hall⟩ := HCx.out (by trivial)
                have hV := ihl l[kk] (List.getElem_mem hlt) wr S b px qx (d + 1) _ (HT.out.bex hb2' (HX4.out.trans HXx.out)) hb2' HLx.out hel (fun k hk => ⟨Nat.lt_of_lt_of_le (hS k hk).1 (HX4.out.trans HXx.out).size, (hS k hk).2⟩) (by omega) hpx2 (by omega) hqx2 (by omega) (by omega)
                have HV := Lib.hid hV
                have HA := Lib.hid hall
                clear hV hel hcl hcl' hall
                go_wp2_with (go_at_call 72; refine HV.out.mono ?_; rintro e w' ⟨rfl, hx', p', q', bad', hl', hc'⟩)
                go_roundw
                case rel =>
                  refine ⟨kk + 1, p', q', bad', by omega, by go_num, hl', HXx.out.trans hx', fun e => ?_⟩
                  obtain ⟨m1, m2, m3, m4, y, hy, he⟩ := hc' e
                  refine ⟨(HCx.out (by trivial)).1, by omega, m2, by omega, m4, ?_⟩
                  rw [List.take_succ_eq_append_getElem hlt]
                  intro x hx
                  rcases List.mem_append.1 hx with hx | hx
                  · exact HA.out x hx
                  · rw [List.mem_singleton.1 hx]; exact ⟨y, hy, he⟩
                case measure => simp [intOf]; omega
              · go_wp2_with fail
                go_meet
                exact ⟨px, qx, true, HLx.out, HXx.out, fun e => by cases e⟩
            · have hke : kk = l.length := by omega
              have HE : Hid (badx = false → bad4 = false ∧ p + 1 + l.length ≤ px ∧ px ≤ 400 ∧ q + t.size ≤ qx ∧ qx ≤ 2000 ∧ ∀ x ∈ l, ∃ y : J, y.fit ∧ x = y.toV) := by
                refine Lib.hid fun e => ?_
                obtain ⟨m0, m1, m2, m3, m4, m5⟩ := HCx.out e
                rw [hke] at m1 m5
                rw [List.take_of_length_le (Nat.le_refl _)] at m5
                exact ⟨m0, m1, m2, m3, m4, m5⟩
              clear hke
              go_wp2_with fail
              go_meet
              exact ⟨px, qx, badx, HLx.out, HXx.out, HE.out⟩
        case rest =>
          obtain ⟨p5, q5, bad5, hl5, hx5, hc5⟩ := hcut
          have hb5 := HB4.out.bex hx5 hbn
          clear g0 g1 g2 g3 g4 g5
          obtain ⟨g0, g1, g2, g3, g4, g5⟩ := hb5.c
          have HL5 := Lib.hid hl5
          have HX5 := Lib.hid (HX4.out.trans hx5)
          have HB5 := Lib.hid hb5
          have HC5 := Lib.hid hc5
          clear hl5 hx5 hb5 hc5
          go_wp2_with fail
          go_loopw [7] (fun i wr => ∃ (kk : Nat) (px qx : Int) (badx : Bool), kk ≤ ks.length ∧ i = .int .i64 kk ∧ LK wr b px qx badx ∧ Bex b wc wr ∧ (badx = false → bad5 = false ∧ p5 + kk ≤ px ∧ px ≤ 400 ∧ q5 ≤ qx ∧ qx ≤ 2000 ∧ (∀ x ∈ vs.take kk, ∃ y : J, y.fit ∧ x = y.toV) ∧ (∀ x ∈ ks.take kk, x.size ≤ 2000) ∧ rises (ks.take kk))) (fun i _ => ks.length - (intOf i).toNat)
          case atStart => exact ⟨0, p5, q5, bad5, Nat.zero_le _, rfl, HL5.out, Bex.refl _ _, fun e => ⟨e, by omega, (HC5.out e).2.2.1, by omega, (HC5.out e).2.2.2.2.1, by simp, by simp, by simp [rises]⟩⟩
          case round =>
            obtain ⟨kk, px, qx, badx, hkk, rfl, hlx, hxx, hcx⟩ := hrel
            have hbx := HB5.out.bex hxx hbn
            clear g0 g1 g2 g3 g4 g5
            obtain ⟨g0, g1, g2, g3, g4, g5⟩ := hbx.c
            have k2 := hlx.c2
            have HLx := Lib.hid hlx
            have HXx := Lib.hid hxx
            have HCx := Lib.hid hcx
            have HBx := Lib.hid hbx
            clear hlx hcx hbx hxx
            by_cases hlt : kk < ks.length
            · cases badx
              · have hq5 : q ≤ q5 := by have := (HC5.out (HCx.out (by trivial)).1).2.2.2.1; omega
                have hp5 : p + 1 ≤ p5 := by have := (HC5.out (HCx.out (by trivial)).1).2.1; omega
                have hlen : ks.length = vs.length := (HC4.out (HC5.out (HCx.out (by trivial)).1).1).1.2.2.2.2.2.2
                obtain ⟨b2, o2, rfl, hsb2, hcl2⟩ := HR2.out.resolve_left (by omega)
                obtain ⟨b3, o3, rfl, hsb3, hcl3⟩ := HR3.out.resolve_left (by omega)
                have hsame : Same S w wr := (HX5.out.trans HXx.out).same hS
                have hcl2' := KCells.keep (fun o => hsame.cell (o := o) hsb2) ks o2 hcl2
                obtain ⟨hkc, hks⟩ := hcl2'.at ks o2 kk hlt
                obtain ⟨_, hpx, hpx2, hqx, hqx2, hall, hksz, hris⟩ := HCx.out (by trivial)
                have HKC : Hid (∀ j (hj : j < ks.length), wr.cell? ⟨b2, o2 + j, none⟩ = some (.string ks[j])) := Lib.hid fun j hj => (hcl2'.at ks o2 j hj).1
                have HCL3 := Lib.hid hcl3
                have HKS := Lib.hid hks
                have HA := Lib.hid hall
                have HA2 := Lib.hid hksz
                have HA3 := Lib.hid hris
                have HLen := Lib.hid hlen
                clear hlen hcl2 hcl3 hsame hcl2' hks hall hksz hris
                go_wp2_with fail
                refine (str_ok b px qx false ks[kk] _ HLx.out (fun w' hx => HT.out.bex hb2' ((HX5.out.trans HXx.out).trans hx)) HKS.out (by omega) (by omega)).mono ?_
                rintro e w6 ⟨rfl, bad6, hl6, hx6, hc6⟩
                have hb6 := HBx.out.bex hx6 hbn
                clear g0 g1 g2 g3 g4 g5
                obtain ⟨g0, g1, g2, g3, g4, g5⟩ := hb6.c
                have HL6 := Lib.hid hl6
                have HX6 := Lib.hid ((HX5.out.trans HXx.out).trans hx6)
                have HXx6 := Lib.hid (HXx.out.trans hx6)
                have HB6 := Lib.hid hb6
                have HC6 := Lib.hid hc6
                have hkc6 : w6.cell? ⟨b2, o2 + kk, none⟩ = some (.string ks[kk]) := (hx6.cell (Nat.lt_of_lt_of_le (hS b2 hsb2).1 (HX5.out.trans HXx.out).size) (hS b2 hsb2).2).trans (HKC.out kk hlt)
                have HKC6 : Hid (∀ j (hj : j < ks.length), w6.cell? ⟨b2, o2 + j, none⟩ = some (.string ks[j])) := Lib.hid fun j hj => (hx6.cell (Nat.lt_of_lt_of_le (hS b2 hsb2).1 (HX5.out.trans HXx.out).size) (hS b2 hsb2).2).trans (HKC.out j hj)
                clear hl6 hx6 hb6 hc6 hkc
                go_upto_region 13 with fail
                go_cut [] (fun wx => ∃ bad7, LK wx b px (qx + ks[kk].size) bad7 ∧ Bex b w6 wx ∧ (bad7 = false → bad6 = false ∧ (kk = 0 ∨ ∃ h1 : kk - 1 < ks.length, slt ks[kk - 1] ks[kk] = true)))
                case first =>
                  by_cases hk0 : kk = 0
                  · have hb0 : ((kk : Int) == 0) = true := by simp [hk0]
                    have HL7 : Hid (LK w6.drew b px (qx + ks[kk].size) bad6) := Lib.hid HL6.out
                    have HK0 := Lib.hid hk0
                    clear hk0
                    refine wp_region_quiet_tail 17 (by kernel_rfl) (by kernel_rfl) ?_
                    simp only [List.take_succ_cons, List.take_zero, List.drop_succ_cons, List.drop_zero]
                    repeat (go_big_quiet_step (fail))
                    refine wpQuiet_nil ?_
                    go_wp2_with (go_at_call 94; refine (want_ok b _ _ _ _ _ HL7.out).mono ?_; rintro e w' ⟨rfl, hl, hbx⟩)
                    go_meet
                    exact ⟨_, hl, (Bex.of_below (Below.refl _ _).drew).trans hbx, fun e => ⟨by simpa using e, .inl HK0.out⟩⟩
                  · obtain ⟨n, hn⟩ : ∃ n, kk = n + 1 := ⟨kk - 1, by omega⟩
                    subst hn
                    have hb0 : (((n + 1 : Nat) : Int) == 0) = false := by simp; omega
                    have hb1 : ((n : Int) + 1 == 0) = false := by simp; omega
                    have HL7 : Hid (LK w6.drew b px (qx + ks[n + 1].size) bad6) := Lib.hid HL6.out
                    have hkn := HKC6.out n (by omega)
                    clear hk0
                    refine wp_region_quiet_tail 17 (by kernel_rfl) (by kernel_rfl) ?_
                    simp only [List.take_succ_cons, List.take_zero, List.drop_succ_cons, List.drop_zero]
                    repeat (go_big_quiet_step (fail))
                    refine wpQuiet_nil ?_
                    go_wp2_with (go_at_call 94; refine (want_ok b _ _ _ _ _ HL7.out).mono ?_; rintro e w' ⟨rfl, hl, hbx⟩)
                    go_meet
                    refine ⟨_, hl, (Bex.of_below (Below.refl _ _).drew).trans hbx, fun e => ?_⟩
                    simp at e
                    exact ⟨e.1, .inr ⟨by omega, e.2⟩⟩
                case rest =>
                  obtain ⟨bad7, hl7, hx7, hc7⟩ := hcut
                  have hb7 := HB6.out.bex hx7 hbn
                  clear g0 g1 g2 g3 g4 g5 hkc6
                  obtain ⟨g0, g1, g2, g3, g4, g5⟩ := hb7.c
                  have HX7 := Lib.hid (HX6.out.trans hx7)
                  have HXx7 := Lib.hid (HXx6.out.trans hx7)
                  have HL7 := Lib.hid hl7
                  have HC7 : Hid (bad7 = false → qx + ks[kk].size ≤ 2000 ∧ (kk = 0 ∨ ∃ h1 : kk - 1 < ks.length, slt ks[kk - 1] ks[kk] = true)) := Lib.hid fun e => ⟨(HC6.out (hc7 e).1).2, (hc7 e).2⟩
                  have hlt3 : kk < vs.length := by have := HLen.out; omega
                  have hcl3' := VCells.keep ((HX7.out).same hS) (fun _ h => h) b3 hsb3 vs o3 HCL3.out
                  obtain ⟨e0, e1, e2, e3, e4, e5, f0, f1, f2, f3, f4, f5, hel⟩ := hcl3'.at vs o3 kk hlt3
                  clear hl7 hx7 hb7 hc7 hcl3'
                  cases bad7
                  · have hV := ihv vs[kk] (List.getElem_mem hlt3) wc S b px (qx + ks[kk].size) (d + 1) _ (HT.out.bex hb2' HX7.out) hb2' HL7.out hel (fun k hk => ⟨Nat.lt_of_lt_of_le (hS k hk).1 HX7.out.size, (hS k hk).2⟩) (by omega) hpx2 (by omega) (HC7.out (by trivial)).1 (by omega) (by omega)
                    have HV := Lib.hid hV
                    clear hV hel
                    go_wp2_with (go_at_call 72; refine HV.out.mono ?_; rintro e w' ⟨rfl, hx', p', q', bad', hl', hc'⟩)
                    go_roundw
                    case rel =>
                      refine ⟨kk + 1, p', q', bad', by omega, by go_num, hl', HXx7.out.trans hx', fun e => ?_⟩
                      obtain ⟨m1, m2, m3, m4, y, hy, he⟩ := hc' e
                      obtain ⟨n1, n2⟩ := HC7.out (by trivial)
                      refine ⟨(HCx.out (by trivial)).1, by omega, m2, by omega, m4, ?_, ?_, ?_⟩
                      · rw [List.take_succ_eq_append_getElem hlt3]
                        intro x hx
                        rcases List.mem_append.1 hx with hx | hx
                        · exact HA.out x hx
                        · rw [List.mem_singleton.1 hx]; exact ⟨y, hy, he⟩
                      · rw [List.take_succ_eq_append_getElem hlt]
                        intro x hx
                        rcases List.mem_append.1 hx with hx | hx
                        · exact HA2.out x hx
                        · rw [List.mem_singleton.1 hx]; omega
                      · exact rises_take ks kk hlt HA3.out n2
                    case measure => simp [intOf]; omega
                  · obtain ⟨xv, hxv⟩ : ∃ x, vs[kk] = x := ⟨_, rfl⟩
                    rw [hxv] at hel
                    obtain ⟨kv, hv, tv, lv, ksv, vsv⟩ := xv
                    obtain ⟨r1, r2, r3, hagg, _⟩ := hel
                    obtain ⟨rfl, rfl, rfl, rfl, rfl, rfl⟩ : e0 = .int .i64 kv ∧ e1 = .int .i64 hv ∧ e2 = .string tv ∧ e3 = r1 ∧ e4 = r2 ∧ e5 = r3 := by simpa using hagg
                    have HV := Lib.hid (value_bad wc b px (qx + ks[kk].size) (d + 1) kv hv tv e3 e4 e5 HL7.out (by omega) (by omega))
                    clear hagg hxv
                    go_wp2_with (go_at_call 72; refine HV.out.mono ?_; rintro e w' ⟨rfl, hx', hl'⟩)
                    go_roundw
                    case rel => exact ⟨kk + 1, px + 1, qx + ks[kk].size, true, by omega, by go_num, hl', HXx7.out.trans hx', fun e => by cases e⟩
                    case measure => simp [intOf]; omega
              · go_wp2_with fail
                go_end0
                exact ⟨rfl, HX5.out.trans HXx.out, px, qx, true, HLx.out, fun e => by cases e⟩
            · have hke : kk = ks.length := by omega
              have HE : Hid (badx = false → p + 1 ≤ px ∧ px ≤ 400 ∧ q ≤ qx ∧ qx ≤ 2000 ∧ ∃ x : J, x.fit ∧ V.mk k h t l ks vs = x.toV) := by
                refine Lib.hid fun e => ?_
                obtain ⟨m0, m1, m2, m3, m4, m5, m6, m7⟩ := HCx.out e
                obtain ⟨n0, n1, n2, n3, n4, n5⟩ := HC5.out m0
                obtain ⟨c1, c2, c3⟩ := HC4.out n0
                rw [hke] at m1 m5 m6 m7
                rw [List.take_of_length_le (Nat.le_refl _)] at m6 m7
                rw [List.take_of_length_le (by have := c1.2.2.2.2.2.2; omega)] at m5
                exact ⟨by omega, m2, by omega, m4, mk_fits k h t l ks vs c1 c2 (by omega) (by omega) (by omega) n5 m5 m6 m7⟩
              clear hke
              go_wp2_with fail
              go_end0
              exact ⟨rfl, HX5.out.trans HXx.out, px, qx, badx, HLx.out, HE.out⟩
  · have HL1 := Lib.hid hl1
    clear hl1 hc1
    go_wp2_with fail
    refine bodyPost_ret (results_none rfl _ _ _) rfl ?_
    exact ⟨rfl, HX.out.trans hx1, _, _, _, HL1.out, fun h => by cases h⟩
end Go.Gj
