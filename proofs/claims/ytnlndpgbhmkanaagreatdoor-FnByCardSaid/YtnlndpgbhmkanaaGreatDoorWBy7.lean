/-
  spec.By, group_by: the appends of a round.
-/
import Derived.Test.YtnlndpgbhmkanaaGreatDoorWBy2
namespace Go.Gj
set_option linter.unusedSimpArgs false
set_option linter.unusedVariables false
set_option linter.unnecessarySimpa false
open Go Go.RowKit Go.Proofs

/-- append of records that stand somewhere, or of nothing, to a row of records of our own. -/
theorem append_recs (w : World) (base : Nat) (v : Value) (n : Nat) (xs : List Value) (hown : w.ownsRow base 26 6 v n xs) (src : Value) (m : Nat) (news : List Value)
    (hsrc : (src = .slice none 0 0 ∧ news = [] ∧ m = 0) ∨ ∃ ad c, src = .slice (some ad) m c ∧ news.length = m * 6 ∧ (∀ u ∈ news, u.oneCell' = true) ∧ ∀ j u, news[j]? = some u → w.cell? (ad.add j) = some u) (hn : n ≤ 2000000) (hm : m ≤ 2000000) (hbase : base ≤ w.heap.size) :
    ∃ v' w', (∀ ty, (Builtin.append_ #[23, 23] ty #[v, src]).run Tryz.prog w = .ok v' w') ∧ w'.ownsRow base 26 6 v' (n + m) (xs ++ news) ∧ w.grownBy w' v.ownBlock := by
  obtain ⟨i0, hi, hz0, hz1, hz2⟩ := info_parts info26
  rcases hsrc with ⟨rfl, rfl, rfl⟩ | ⟨ad, c, rfl, hl, h1, hnews⟩
  · exact ⟨v, w, fun ty => run_append_owned_none (P := Tryz.prog) w base 23 ty 26 i0 6 Tryz.underlying23 hi v n xs hown, by simpa using hown, ⟨rfl, rfl, rfl, Nat.le_refl _, fun _ _ _ => rfl⟩⟩
  · obtain ⟨v', w', h, h2, h3, h4⟩ := run_append_own (P := Tryz.prog) w base 23 0 26 i0 (.agg #[.int .i64 0, .int .i64 0, .string ⟨#[]⟩, .slice none 0 0, .slice none 0 0, .slice none 0 0]) 6 104 Tryz.underlying23 hi hz0 hz1 hz2 rfl (by decide) v n xs hown ad m c news hl hnews h1 (by simp only [maxLen]; omega) (by omega) hbase
    exact ⟨v', w', fun ty => h, h2, h3⟩

/-- What the last group's slice is: where its records stand, in all later worlds. -/
structure Src6 (w : World) (src : Value) (n : Nat) (old : List Value) : Prop where
  len : old.length = n * 6
  one : ∀ u ∈ old, u.oneCell' = true
  at_ : (src = .slice none 0 0 ∧ n = 0) ∨ ∃ b o c, src = .slice (some ⟨b, o, none⟩) n c ∧ b < w.heap.size ∧ ∀ j u, old[j]? = some u → w.cell? ⟨b, o + j, none⟩ = some u

/-- A copy of it. -/
theorem grp_copy {w : World} {src : Value} {n : Nat} {old : List Value} (h : Src6 w src n old) (hn : n ≤ 1000000) (W : World) (hW : Below w.heap.size w W) (v0 : Value) (hv0 : W.ownsRow w.heap.size 26 6 v0 0 []) :
    ∃ v1 y1, (∀ ty, (Builtin.append_ #[23, 23] ty #[v0, src]).run Tryz.prog W = .ok v1 y1) ∧ y1.ownsRow w.heap.size 26 6 v1 n old ∧ Below w.heap.size w y1 ∧ W.grownBy y1 v0.ownBlock ∧ ∃ d c, v1 = .slice d n c := by
  obtain ⟨v1, y1, h1, h2, h3⟩ := append_recs W w.heap.size v0 0 [] hv0 src n old (by
    rcases h.at_ with ⟨h1, rfl⟩ | ⟨b, o, c, h1, hb, h2⟩
    · exact .inl ⟨h1, List.length_eq_zero_iff.1 (by have := h.len; omega), rfl⟩
    · refine .inr ⟨_, c, h1, h.len, h.one, fun j u hj => ?_⟩
      have e : (⟨b, o, none⟩ : Addr).add j = ⟨b, o + j, none⟩ := by unfold Addr.add; split <;> simp_all
      rw [e]
      exact (hW.cell (p := ⟨b, o + j, none⟩) hb).trans (h2 j u hj)) (by omega) (by omega) hW.size
  rw [Nat.zero_add, List.nil_append] at h2
  obtain ⟨d, c, hv⟩ := own_shape h2
  exact ⟨v1, y1, h1, h2, hW.trans (grown_below h3 hW.size (fun k hk => (hv0.lt k hk).1)), h3, d, c, hv⟩

/-- One record more. -/
theorem grp_more {w : World} {n : Nat} {old : List Value} (hn : n ≤ 1000000) (W : World) (hW : Below w.heap.size w W) (v1 : Value) (hv1 : W.ownsRow w.heap.size 26 6 v1 n old) (B : Nat) (c0 c1 c2 c3 c4 c5 : Value) (h1 : ∀ u ∈ [c0, c1, c2, c3, c4, c5], u.oneCell' = true) (hB : W.heap[B]? = some (.cells #[c0, c1, c2, c3, c4, c5] 26)) :
    ∃ v2 y2, (∀ ty, (Builtin.append_ #[23, 23] ty #[v1, .slice (some ⟨B, 0, none⟩) 1 1]).run Tryz.prog W = .ok v2 y2) ∧ y2.ownsRow w.heap.size 26 6 v2 (n + 1) (old ++ [c0, c1, c2, c3, c4, c5]) ∧ Below w.heap.size w y2 ∧ ∃ g c, v2 = .slice (some ⟨g, 0, none⟩) (n + 1) c := by
  obtain ⟨v2, y2, h2, h3, h4⟩ := append_recs W w.heap.size v1 n old hv1 (.slice (some ⟨B, 0, none⟩) 1 1) 1 [c0, c1, c2, c3, c4, c5] (.inr ⟨_, 1, rfl, rfl, h1, World.news_of_block hB⟩) (by omega) (by omega) hW.size
  obtain ⟨d, c, rfl⟩ := own_shape h3
  refine ⟨_, y2, h2, h3, hW.trans (grown_below h4 hW.size (fun k hk => (hv1.lt k hk).1)), ?_⟩
  rcases own_shape' h3 with ⟨_, h, _⟩ | ⟨g, rfl, _⟩
  · omega
  · exact ⟨g, c, rfl⟩
end Go.Gj

/-
  spec.By, group_by: the row of groups.
-/
namespace Go.Gj
set_option linter.unusedSimpArgs false
set_option linter.unusedVariables false
set_option linter.unnecessarySimpa false
open Go Go.RowKit Go.Proofs

theorem grpN_ne (sl sk : List J) : ∀ k, ∀ g ∈ grpN sl sk k, g ≠ []
  | 0, g, h => by cases h
  | k + 1, g, h => by
    have ih := grpN_ne sl sk k
    unfold grpN at h
    split at h
    · rcases List.mem_append.1 h with h | h
      · exact ih g h
      · simp at h; subst h; simp
    · unfold addLast at h
      rcases List.mem_or_eq_of_mem_set h with h | h
      · exact ih g h
      · subst h; simp

/-- A round's groups, whether a group begins or not. -/
theorem grpN_new (sl sk : List J) (k : Nat) (h : k = 0 ∨ cmpJ (sk.getD (k - 1) .null) (sk.getD k .null) ≠ 0) : grpN sl sk (k + 1) = addLast (grpN sl sk k ++ [[]]) (sl.getD k .null) := by
  show (if _ then _ else _) = _
  rw [if_pos h]
  simp [addLast]
theorem grpN_old (sl sk : List J) (k : Nat) (h : ¬ (k = 0 ∨ cmpJ (sk.getD (k - 1) .null) (sk.getD k .null) ≠ 0)) : grpN sl sk (k + 1) = addLast (grpN sl sk k) (sl.getD k .null) := by
  show (if _ then _ else _) = _
  rw [if_neg h]

theorem Flat.at {w : World} {S : Nat → Prop} : ∀ (l : List J) (xs : List Value) (i : Nat) (hi : i < l.length), Flat w S l xs →
    ∃ c0 c1 c2 c3 c4 c5, xs[i * 6 + 3]? = some c3 ∧ JRep w S l[i] (.agg #[c0, c1, c2, c3, c4, c5])
  | [], _, i, hi, _ => absurd hi (Nat.not_lt_zero _)
  | y :: l, _, 0, _, e => by
    obtain ⟨d0, d1, d2, d3, d4, d5, rest, rfl, hy, hr⟩ := e
    exact ⟨d0, d1, d2, d3, d4, d5, rfl, hy⟩
  | y :: l, _, i + 1, hi, e => by
    obtain ⟨d0, d1, d2, d3, d4, d5, rest, rfl, hy, hr⟩ := e
    obtain ⟨c0, c1, c2, c3, c4, c5, h, h'⟩ := Flat.at l rest i (by simpa using hi) hr
    refine ⟨c0, c1, c2, c3, c4, c5, ?_, by simpa using h'⟩
    rw [show (i + 1) * 6 + 3 = (i * 6 + 3) + 6 by omega]
    simpa using h

theorem Flat.put {w : World} {S : Nat → Prop} {x : J} {c0 c1 c2 c3 c4 c5 : Value} (h : JRep w S x (.agg #[c0, c1, c2, c3, c4, c5])) : ∀ (l : List J) (xs : List Value) (i : Nat), Flat w S l xs → i < l.length →
    Flat w S (l.set i x) ((((((xs.set (i * 6) c0).set (i * 6 + 1) c1).set (i * 6 + 2) c2).set (i * 6 + 3) c3).set (i * 6 + 4) c4).set (i * 6 + 5) c5)
  | [], _, i, _, hi => absurd hi (Nat.not_lt_zero _)
  | y :: l, _, 0, e, _ => by
    obtain ⟨d0, d1, d2, d3, d4, d5, rest, rfl, hy, hr⟩ := e
    exact ⟨c0, c1, c2, c3, c4, c5, rest, rfl, h, hr⟩
  | y :: l, _, i + 1, e, hi => by
    obtain ⟨d0, d1, d2, d3, d4, d5, rest, rfl, hy, hr⟩ := e
    have ih := Flat.put h l rest i hr (by simpa using hi)
    refine ⟨d0, d1, d2, d3, d4, d5, _, ?_, hy, ih⟩
    rw [show (i + 1) * 6 = i * 6 + 1 + 1 + 1 + 1 + 1 + 1 by omega, show i * 6 + 1 + 1 + 1 + 1 + 1 + 1 + 1 = (i * 6 + 1) + 1 + 1 + 1 + 1 + 1 + 1 by omega, show i * 6 + 1 + 1 + 1 + 1 + 1 + 1 + 2 = (i * 6 + 2) + 1 + 1 + 1 + 1 + 1 + 1 by omega, show i * 6 + 1 + 1 + 1 + 1 + 1 + 1 + 3 = (i * 6 + 3) + 1 + 1 + 1 + 1 + 1 + 1 by omega, show i * 6 + 1 + 1 + 1 + 1 + 1 + 1 + 4 = (i * 6 + 4) + 1 + 1 + 1 + 1 + 1 + 1 by omega, show i * 6 + 1 + 1 + 1 + 1 + 1 + 1 + 5 = (i * 6 + 5) + 1 + 1 + 1 + 1 + 1 + 1 by omega]
    simp only [List.set_cons_succ]

/-- Records that stand somewhere, as cells one behind the other. -/
theorem flat_of_cells {w : World} {S : Nat → Prop} {b : Nat} : ∀ (l : List J) (o : Nat), VCells w S b (J.toVs l) o → ∃ old : List Value, old.length = l.length * 6 ∧ (∀ u ∈ old, u.oneCell' = true) ∧ (∀ j u, old[j]? = some u → w.cell? ⟨b, o + j, none⟩ = some u) ∧ Flat w S l old
  | [], _, _ => ⟨[], rfl, (fun _ h => by cases h), (fun j u h => by simp at h), rfl⟩
  | x :: l, o, h => by
    obtain ⟨⟨c0, c1, c2, c3, c4, c5, h0, h1, h2, h3, h4, h5, hr⟩, ht⟩ := h
    obtain ⟨old, e1, e2, e3, e4⟩ := flat_of_cells l (o + 6) ht
    have hr' : JRep w S x (.agg #[c0, c1, c2, c3, c4, c5]) := hr
    refine ⟨c0 :: c1 :: c2 :: c3 :: c4 :: c5 :: old, by simp [e1]; omega, fun u hu => ?_, fun j u hj => ?_, c0, c1, c2, c3, c4, c5, old, rfl, hr', e4⟩
    · obtain ⟨rk, rh, rt, a1, n1, m1, a2, n2, m2, a3, n3, m3, rfl, rfl, rfl, rfl, rfl, rfl⟩ := hr'.shape6
      simp at hu
      rcases hu with rfl | rfl | rfl | rfl | rfl | rfl | hu
      all_goals first | rfl | exact e2 u hu
    · match j, hj with
      | 0, hj => simp at hj; subst hj; simpa using h0
      | 1, hj => simp at hj; subst hj; exact h1
      | 2, hj => simp at hj; subst hj; exact h2
      | 3, hj => simp at hj; subst hj; exact h3
      | 4, hj => simp at hj; subst hj; exact h4
      | 5, hj => simp at hj; subst hj; exact h5
      | j + 6, hj =>
        have := e3 j u (by simpa using hj)
        rw [show o + (j + 6) = o + 6 + j by omega]
        exact this

/-- A record set in a row, cell by cell. -/
def set6o (w : World) (b o : Nat) (c0 c1 c2 c3 c4 c5 : Value) : World :=
  (((((w.setCell ⟨b, o, none⟩ c0).setCell ⟨b, o + 1, none⟩ c1).setCell ⟨b, o + 2, none⟩ c2).setCell ⟨b, o + 3, none⟩ c3).setCell ⟨b, o + 4, none⟩ c4).setCell ⟨b, o + 5, none⟩ c5

theorem below_set6o {B b o : Nat} {w : World} (h : B ≤ b) (c0 c1 c2 c3 c4 c5 : Value) : Below B w (set6o w b o c0 c1 c2 c3 c4 c5) :=
  ((((((Below.refl B w).setCell (p := ⟨b, o, none⟩) h c0).setCell (p := ⟨b, o + 1, none⟩) h c1).setCell (p := ⟨b, o + 2, none⟩) h c2).setCell (p := ⟨b, o + 3, none⟩) h c3).setCell (p := ⟨b, o + 4, none⟩) h c4).setCell (p := ⟨b, o + 5, none⟩) h c5
theorem set6o_other {b o : Nat} {w : World} (c0 c1 c2 c3 c4 c5 : Value) (k : Nat) (hk : k ≠ b) : (set6o w b o c0 c1 c2 c3 c4 c5).heap[k]? = w.heap[k]? := by
  unfold set6o
  rw [Below.heap_setCell _ _ _ _ hk, Below.heap_setCell _ _ _ _ hk, Below.heap_setCell _ _ _ _ hk, Below.heap_setCell _ _ _ _ hk, Below.heap_setCell _ _ _ _ hk, Below.heap_setCell _ _ _ _ hk]
theorem set6o_size {b o : Nat} {w : World} (c0 c1 c2 c3 c4 c5 : Value) : (set6o w b o c0 c1 c2 c3 c4 c5).heap.size = w.heap.size := by simp [set6o, World.setCell]
theorem set6o_at {b o : Nat} {w : World} {cur : Array Value} {e : TypeId} {fz : Nat × Nat} (h : w.heap[b]? = some (.cells cur e fz)) (c0 c1 c2 c3 c4 c5 : Value) :
    (set6o w b o c0 c1 c2 c3 c4 c5).heap[b]? = some (.cells ((((((cur.setIfInBounds o c0).setIfInBounds (o + 1) c1).setIfInBounds (o + 2) c2).setIfInBounds (o + 3) c3).setIfInBounds (o + 4) c4).setIfInBounds (o + 5) c5) e fz) := by
  simp [set6o, World.setCell, Array.getElem?_modify, h]

/-- What holds of the row of groups: it is ours, and none of the groups' rows is the row itself. -/
structure GInv (w3 : World) (S : Nat → Prop) (wr : World) (gs : List (List J)) (v : Value) (xs : List Value) : Prop where
  bel : Below w3.heap.size w3 wr
  own : wr.ownsRow w3.heap.size 26 6 v gs.length xs
  flat : Flat wr (fun b => S b ∨ beside w3.heap.size v wr b) (gs.map .arr) xs

theorem GInv.nil (w3 : World) (S : Nat → Prop) : GInv w3 S w3 [] (.slice none 0 0) [] := ⟨Below.refl _ _, World.ownsRow_nil _ _ _ _, rfl⟩

theorem GInv.over {w3 wr wr' : World} {S : Nat → Prop} (hS : ∀ b, S b → b < w3.heap.size) {gs : List (List J)} {v : Value} {xs : List Value} (h : GInv w3 S wr gs v xs) (hb : Below wr.heap.size wr wr') : GInv w3 S wr' gs v xs where
  bel := h.bel.trans (hb.mono h.bel.size)
  own := own_below h.own hb
  flat := h.flat.keep (.of_below hb fun b q => q.elim (fun q => Nat.lt_of_lt_of_le (hS b q) h.bel.size) (fun q => q.2.1)) (fun b q => q.imp_right fun q => ⟨q.1, Nat.lt_of_lt_of_le q.2.1 hb.size, q.2.2⟩)

theorem append_blk26 {w : World} {base : Nat} {v : Value} {n : Nat} {xs : List Value} (hown : w.ownsRow base 26 6 v n xs) {g0 : Nat} (hv : v.ownBlock = some g0) {ad : Addr} {c : Nat} {news : List Value} (hl : news.length = 1 * 6) (hnews : ∀ j u, news[j]? = some u → w.cell? (ad.add j) = some u)
    (h1 : ∀ u ∈ news, u.oneCell' = true) (hn : n ≤ 1000000) {ty : TypeId} {v' : Value} {w' : World} (hrun : (Builtin.append_ #[23, 23] ty #[v, .slice (some ad) 1 c]).run Tryz.prog w = .ok v' w') : v'.ownBlock = some g0 ∨ v'.ownBlock = some w.heap.size := by
  obtain ⟨i, hi, hz, hs, hb⟩ := info_parts info26
  have hown2 := hown
  obtain ⟨hxl, ⟨rfl, _⟩ | ⟨gg, cap, cur, rfl, hbg, hg, hnc, hcm, hcs, htake⟩⟩ := hown
  · cases hv
  · obtain rfl : gg = g0 := by simpa [Value.ownBlock] using hv
    by_cases hroom : n + 1 ≤ cap
    · have hr := run_append_room (P := Tryz.prog) w 23 ty 26 i Tryz.underlying23 hi gg n cap cur hg ad 1 c news (by rw [hs]; exact hl) hnews h1 hroom (by rw [hs, hcs, hl]; omega)
      rw [hr] at hrun
      injection hrun with e1 e2
      subst e1
      exact .inl rfl
    · have holds : ∀ j u, xs[j]? = some u → w.cell? ((⟨gg, 0, none⟩ : Addr).add j) = some u := hown2.cells (g := gg) rfl
      have hr := run_append_grow (P := Tryz.prog) w 23 ty 26 i _ Tryz.underlying23 hi hz ⟨gg, 0, none⟩ n cap xs (by rw [hs]; exact hxl) holds ad 1 c news (by rw [hs]; exact hl) hnews (by omega) (by omega) (growslice_fits (by omega) (by rw [hb]; omega))
      rw [hr] at hrun
      injection hrun with e1 e2
      subst e1
      exact .inr rfl

/-- A new group, empty yet. -/
theorem GInv.new {w3 wr : World} {S : Nat → Prop} (hS : ∀ b, S b → b < w3.heap.size) {gs : List (List J)} {v : Value} {xs : List Value} (h : GInv w3 S wr gs v xs) (hn : gs.length ≤ 1000000) :
    ∃ g cap wz xs', (∀ ty, (Builtin.append_ #[23, 23] ty #[v, .slice (some ⟨wr.heap.size, 0, none⟩) 1 1]).run Tryz.prog (wr.alloc (.cells #[.int .i64 5, .int .i64 0, .string ⟨#[]⟩, .slice none 0 0, .slice none 0 0, .slice none 0 0] 26)) = .ok (.slice (some ⟨g, 0, none⟩) (gs.length + 1) cap) wz) ∧
      GInv w3 S wz (gs ++ [[]]) (.slice (some ⟨g, 0, none⟩) (gs.length + 1) cap) xs' ∧ (∀ b, b < wr.heap.size → v.ownBlock ≠ some b → wz.heap[b]? = wr.heap[b]?) ∧ xs'[gs.length * 6 + 3]? = some (.slice none 0 0) ∧ wr.heap.size < wz.heap.size := by
  have h1 : ∀ u ∈ [Value.int .i64 5, .int .i64 0, .string ⟨#[]⟩, .slice none 0 0, .slice none 0 0, .slice none 0 0], u.oneCell' = true := by intro u hu; simp at hu; rcases hu with rfl | rfl | rfl | rfl <;> rfl
  obtain ⟨v', wz, hrun, hown, hbel, hblk, hsz, g, cap, rfl⟩ := append_rec wr w3.heap.size v gs.length xs h.own (.int .i64 5) (.int .i64 0) (.string ⟨#[]⟩) (.slice none 0 0) (.slice none 0 0) (.slice none 0 0) h1 hn h.bel.size
  refine ⟨g, cap, wz, _, hrun, ⟨h.bel.trans hbel, by simpa using hown, ?_⟩, hblk, ?_, hsz⟩
  · rw [List.map_append]
    have hnew : JRep wz (fun b => S b ∨ beside w3.heap.size (.slice (some ⟨g, 0, none⟩) (gs.length + 1) cap) wz b) (.arr []) (.agg #[.int .i64 5, .int .i64 0, .string ⟨#[]⟩, .slice none 0 0, .slice none 0 0, .slice none 0 0]) :=
      jrep_arr (slice_of_own (base := 0) (World.ownsRow_nil _ _ _ _) rfl (by decide) (fun b e => by cases e))
    refine Flat.snoc hnew _ _ ?_
    cases hv : v.ownBlock with
    | none =>
      have : gs.length = 0 := by
        rcases h.own.2 with ⟨_, e⟩ | ⟨g', cap', cur, e, _⟩
        · exact e
        · rw [e] at hv; cases hv
      obtain rfl : gs = [] := List.length_eq_zero_iff.1 this
      exact h.flat
    | some g0 =>
      have hat := append_blk26 (own_below h.own (below1 wr (.cells #[.int .i64 5, .int .i64 0, .string ⟨#[]⟩, .slice none 0 0, .slice none 0 0, .slice none 0 0] 26))) hv (news := [.int .i64 5, .int .i64 0, .string ⟨#[]⟩, .slice none 0 0, .slice none 0 0, .slice none 0 0]) rfl (World.news_of_block (heap_alloc_new wr _)) h1 hn (hrun 0)
      rw [size_alloc] at hat
      have hlt := h.own.lt
      refine h.flat.keep (fun b q => ?_) (fun b q => ?_)
      · rcases q with q | q
        · exact hblk b (Nat.lt_of_lt_of_le (hS b q) h.bel.size) (fun e => by have := (hlt b e).1; have := hS b q; omega)
        · exact hblk b q.2.1 q.2.2
      · refine q.imp_right fun q => ⟨q.1, by have := q.2.1; omega, fun e => ?_⟩
        rcases hat with hat | hat
        · exact q.2.2 (hv.trans (hat.symm.trans e))
        · rw [hat] at e
          have := q.2.1
          simp at e
          omega
  · have hl := h.own.1
    rw [List.getElem?_append_right (by omega), hl]
    simp

/-- A group set anew. -/
theorem GInv.put {w3 wm y : World} {S : Nat → Prop} (hS : ∀ b, S b → b < w3.heap.size) {gs : List (List J)} {g0 cap m : Nat} {xs : List Value} (h : GInv w3 S wm gs (.slice (some ⟨g0, 0, none⟩) (m + 1) cap) xs) (hm : gs.length = m + 1) (hy : Below wm.heap.size wm y) (G : List J) (v2 : Value)
    (hG : JSl y (fun b => S b ∨ beside w3.heap.size (.slice (some ⟨g0, 0, none⟩) (m + 1) cap) y b) G v2) :
    ∃ xs', GInv w3 S (set6o y g0 (m * 6) (.int .i64 5) (.int .i64 0) (.string ⟨#[]⟩) v2 (.slice none 0 0) (.slice none 0 0)) (gs.set m G) (.slice (some ⟨g0, 0, none⟩) (m + 1) cap) xs' := by
  have h' := h.over hS hy
  have hg0 := (h'.own.lt g0 rfl).1
  have hown := h'.own
  have hsame : Same (fun b => S b ∨ beside w3.heap.size (.slice (some ⟨g0, 0, none⟩) (m + 1) cap) y b) y (set6o y g0 (m * 6) (.int .i64 5) (.int .i64 0) (.string ⟨#[]⟩) v2 (.slice none 0 0) (.slice none 0 0)) := fun b q => by
    rw [set6o_other]
    rcases q with q | q
    · have := hS b q; omega
    · exact fun e => q.2.2 (by rw [e]; rfl)
  have hsub : ∀ b, (S b ∨ beside w3.heap.size (.slice (some ⟨g0, 0, none⟩) (m + 1) cap) y b) → (S b ∨ beside w3.heap.size (.slice (some ⟨g0, 0, none⟩) (m + 1) cap) (set6o y g0 (m * 6) (.int .i64 5) (.int .i64 0) (.string ⟨#[]⟩) v2 (.slice none 0 0) (.slice none 0 0)) b) := fun b q => by
    refine q.imp_right fun q => ⟨q.1, ?_, q.2.2⟩
    rw [set6o_size]
    exact q.2.1
  refine ⟨(((((xs.set (m * 6) (.int .i64 5)).set (m * 6 + 1) (.int .i64 0)).set (m * 6 + 2) (.string ⟨#[]⟩)).set (m * 6 + 3) v2).set (m * 6 + 4) (.slice none 0 0)).set (m * 6 + 5) (.slice none 0 0), h'.bel.trans (below_set6o hg0 _ _ _ _ _ _), ?_, ?_⟩
  rotate_left
  · rw [List.map_set]
    exact (Flat.put (jrep_arr hG) _ _ m h'.flat (by simp; omega)).keep hsame hsub
  · obtain ⟨hl, ⟨e, _⟩ | ⟨g, cp, cur, e, hb, hg, hn, hc, hcur, htake⟩⟩ := hown
    · cases e
    · simp only [Value.slice.injEq, Option.some.injEq, Addr.mk.injEq, and_true, true_and] at e
      obtain ⟨rfl, -, rfl⟩ := e
      refine ⟨by simpa using hl, .inr ⟨g0, cap, _, by rw [List.length_set, hm], hb, set6o_at hg _ _ _ _ _ _, by simpa using hn, hc, by simpa using hcur, ?_⟩⟩
      simp only [Array.toList_setIfInBounds, List.take_set, List.length_set, htake]

theorem GInv.six {w3 wx : World} {S : Nat → Prop} {gs : List (List J)} {g0 cap m : Nat} {xs : List Value} (h : GInv w3 S wx gs (.slice (some ⟨g0, 0, none⟩) (m + 1) cap) xs) (hm : gs.length = m + 1) :
    (∃ z0 z1 z2 z3 z4 z5, wx.cell? ⟨g0, m * 6, none⟩ = some z0 ∧ wx.cell? ⟨g0, m * 6 + 1, none⟩ = some z1 ∧ wx.cell? ⟨g0, m * 6 + 2, none⟩ = some z2 ∧ wx.cell? ⟨g0, m * 6 + 3, none⟩ = some z3 ∧ wx.cell? ⟨g0, m * 6 + 4, none⟩ = some z4 ∧ wx.cell? ⟨g0, m * 6 + 5, none⟩ = some z5) ∧ ∀ o, wx.frozen? ⟨g0, o, none⟩ = false := by
  obtain ⟨hl, ⟨e, _⟩ | ⟨g, cp, cur, e, hb, hg, hn, hc, hcur, htake⟩⟩ := h.own
  · cases e
  · simp only [Value.slice.injEq, Option.some.injEq, Addr.mk.injEq, and_true, true_and] at e
    obtain ⟨rfl, -, rfl⟩ := e
    have hat : ∀ i (hi : i < cur.size), wx.cell? ⟨g0, i, none⟩ = some cur[i] := fun i hi => by
      unfold World.cell?
      show (match wx.heap[g0]? with | some (.cells c elem frozen) => c[i]? | x => none) = _
      rw [hg]
      exact Array.getElem?_eq_getElem hi
    exact ⟨⟨_, _, _, _, _, _, hat _ (by omega), hat _ (by omega), hat _ (by omega), hat _ (by omega), hat _ (by omega), hat _ (by omega)⟩, fun o => by simp [World.frozen?, hg]⟩

/-- What stands ahead of a round's last statement: the last group, in all its parts. -/
structure GMid (w3 : World) (S : Nat → Prop) (wx : World) (gs : List (List J)) (xs : List Value) (g0 m cap : Nat) (d : Option Addr) (n c : Nat) (last : List J) (old : List Value) : Prop where
  inv : GInv w3 S wx gs (.slice (some ⟨g0, 0, none⟩) (m + 1) cap) xs
  len : gs.length = m + 1
  lst : gs.getD m [] = last
  hn : last.length = n
  src : Src6 wx (.slice d n c) n old
  flat : Flat wx (fun b => S b ∨ beside w3.heap.size (.slice (some ⟨g0, 0, none⟩) (m + 1) cap) wx b) last old
  cell : wx.cell? ⟨g0, m * 6 + 3, none⟩ = some (.slice d n c)

theorem GInv.mid_new {w3 wx : World} {S : Nat → Prop} {gs : List (List J)} {g0 cap : Nat} {xs : List Value} (h : GInv w3 S wx (gs ++ [[]]) (.slice (some ⟨g0, 0, none⟩) (gs.length + 1) cap) xs) (hx : xs[gs.length * 6 + 3]? = some (.slice none 0 0)) :
    GMid w3 S wx (gs ++ [[]]) xs g0 gs.length cap none 0 0 [] [] := by
  refine ⟨h, by simp, by simp, rfl, ⟨rfl, (fun _ h => by cases h), .inl ⟨rfl, rfl⟩⟩, rfl, ?_⟩
  have := h.own.cells (g := g0) rfl _ _ hx
  rwa [addr_add] at this

theorem GInv.mid_old {w3 wx : World} {S : Nat → Prop} (hS : ∀ b, S b → b < w3.heap.size) {gs : List (List J)} {g0 m cap : Nat} {xs : List Value} (h : GInv w3 S wx gs (.slice (some ⟨g0, 0, none⟩) (m + 1) cap) xs) (hm : gs.length = m + 1) (hne : gs.getD m [] ≠ []) :
    ∃ d c old, GMid w3 S wx gs xs g0 m cap d (gs.getD m []).length c (gs.getD m []) old := by
  obtain ⟨c0, c1, c2, c3, c4, c5, hx, hr⟩ := Flat.at _ _ m (by simp; omega) h.flat
  have hge : (gs.map J.arr)[m]'(by simp; omega) = .arr (gs.getD m []) := by
    simp [List.getD_eq_getElem?_getD, List.getElem?_eq_getElem (show m < gs.length by omega)]
  rw [hge] at hr
  generalize hL : gs.getD m [] = last at hr hne ⊢
  have hcell := h.own.cells (g := g0) rfl _ _ hx
  rw [addr_add] at hcell
  obtain ⟨s1, s2, s3, e, -, hsl, -, -⟩ := hr.parts
  simp only [Value.agg.injEq, Array.mk.injEq, List.cons.injEq, and_true] at e
  obtain ⟨-, -, -, rfl, -, -⟩ := e
  have hpos : last.length ≠ 0 := fun e => hne (List.length_eq_zero_iff.1 e)
  obtain ⟨a, c, e3, -, hz⟩ : JSl wx _ last c3 := hsl
  obtain ⟨b, o, rfl, hb, hq⟩ := hz.resolve_left hpos
  subst e3
  obtain ⟨old, e1, e2, e3, e4⟩ := flat_of_cells last o hq
  exact ⟨_, c, old, h, hm, hL, rfl, ⟨e1, e2, .inr ⟨b, o, c, rfl, hb.elim (fun q => Nat.lt_of_lt_of_le (hS b q) h.bel.size) (fun q => q.2.1), e3⟩⟩, e4, hcell⟩

theorem GMid.over {w3 wx wy : World} {S : Nat → Prop} (hS : ∀ b, S b → b < w3.heap.size) {gs : List (List J)} {xs : List Value} {g0 m cap : Nat} {d : Option Addr} {n c : Nat} {last : List J} {old : List Value} (h : GMid w3 S wx gs xs g0 m cap d n c last old) (hb : Below wx.heap.size wx wy) : GMid w3 S wy gs xs g0 m cap d n c last old := by
  have hlt : ∀ b, (S b ∨ beside w3.heap.size (.slice (some ⟨g0, 0, none⟩) (m + 1) cap) wx b) → b < wx.heap.size := fun b q => q.elim (fun q => Nat.lt_of_lt_of_le (hS b q) h.inv.bel.size) (fun q => q.2.1)
  refine ⟨h.inv.over hS hb, h.len, h.lst, h.hn, ⟨h.src.len, h.src.one, h.src.at_.imp_right fun ⟨b, o, c, e, hl, hc⟩ => ⟨b, o, c, e, Nat.lt_of_lt_of_le hl hb.size, fun j u hj => (hb.cell (p := ⟨b, o + j, none⟩) hl).trans (hc j u hj)⟩⟩,
    h.flat.keep (.of_below hb hlt) (fun b q => q.imp_right fun q => ⟨q.1, Nat.lt_of_lt_of_le q.2.1 hb.size, q.2.2⟩), (hb.cell (p := ⟨g0, m * 6 + 3, none⟩) (h.inv.own.lt g0 rfl).2).trans h.cell⟩

/-- The three orders of a round's appends. -/
theorem grp_A {w : World} {src : Value} {n : Nat} {old : List Value} (h : Src6 w src n old) (hn : n ≤ 1000000) (c0 c1 c2 c3 c4 c5 : Value) (h1 : ∀ u ∈ [c0, c1, c2, c3, c4, c5], u.oneCell' = true) :
    ∃ d1 k1 y1 gg k2 y2, (∀ ty, (Builtin.append_ #[23, 23] ty #[.slice (some ⟨w.heap.size, 0, none⟩) 0 0, src]).run Tryz.prog (w.alloc (.cells #[] 26)) = .ok (.slice d1 n k1) y1) ∧ Below w.heap.size w y1 ∧
      (∀ ty, (Builtin.append_ #[23, 23] ty #[.slice d1 n k1, .slice (some ⟨y1.heap.size, 0, none⟩) 1 1]).run Tryz.prog (y1.alloc (.cells #[c0, c1, c2, c3, c4, c5] 26)) = .ok (.slice (some ⟨gg, 0, none⟩) (n + 1) k2) y2) ∧
      y2.ownsRow w.heap.size 26 6 (.slice (some ⟨gg, 0, none⟩) (n + 1) k2) (n + 1) (old ++ [c0, c1, c2, c3, c4, c5]) ∧ Below w.heap.size w y2 := by
  obtain ⟨v1, y1, r1, o1, b1, -, d1, k1, rfl⟩ := grp_copy h hn _ (below1 w (.cells #[] 26)) _ (World.ownsRow_lit w #[] 0 (Nat.le_refl _) (Nat.zero_le _) rfl)
  obtain ⟨v2, y2, r2, o2, b2, gg, k2, rfl⟩ := grp_more hn _ (b1.alloc b1.size (.cells #[c0, c1, c2, c3, c4, c5] 26)) _ (own_below o1 (below1 y1 _)) y1.heap.size c0 c1 c2 c3 c4 c5 h1 (heap_alloc_new y1 _)
  exact ⟨d1, k1, y1, gg, k2, y2, r1, b1, r2, o2, b2⟩

theorem grp_B {w : World} {src : Value} {n : Nat} {old : List Value} (h : Src6 w src n old) (hn : n ≤ 1000000) (c0 c1 c2 c3 c4 c5 : Value) (h1 : ∀ u ∈ [c0, c1, c2, c3, c4, c5], u.oneCell' = true) :
    ∃ d1 k1 y1 gg k2 y2, (∀ ty, (Builtin.append_ #[23, 23] ty #[.slice (some ⟨w.heap.size, 0, none⟩) 0 0, src]).run Tryz.prog ((w.alloc (.cells #[] 26)).alloc (.cells #[c0, c1, c2, c3, c4, c5] 26)) = .ok (.slice d1 n k1) y1) ∧ Below w.heap.size w y1 ∧
      (∀ ty, (Builtin.append_ #[23, 23] ty #[.slice d1 n k1, .slice (some ⟨w.heap.size + 1, 0, none⟩) 1 1]).run Tryz.prog y1 = .ok (.slice (some ⟨gg, 0, none⟩) (n + 1) k2) y2) ∧
      y2.ownsRow w.heap.size 26 6 (.slice (some ⟨gg, 0, none⟩) (n + 1) k2) (n + 1) (old ++ [c0, c1, c2, c3, c4, c5]) ∧ Below w.heap.size w y2 := by
  have e1 : (w.alloc (.cells #[] 26)).heap.size = w.heap.size + 1 := size_alloc _ _
  have hB := heap_alloc_new (w.alloc (.cells #[] 26)) (.cells #[c0, c1, c2, c3, c4, c5] 26)
  rw [e1] at hB
  have e2 : ((w.alloc (.cells #[] 26)).alloc (.cells #[c0, c1, c2, c3, c4, c5] 26)).heap.size = w.heap.size + 2 := by rw [size_alloc, e1]
  obtain ⟨v1, y1, r1, o1, b1, hg, d1, k1, rfl⟩ := grp_copy h hn _ (below2 w (.cells #[] 26) (.cells #[c0, c1, c2, c3, c4, c5] 26)) (.slice (some ⟨w.heap.size, 0, none⟩) 0 0) (own_below (World.ownsRow_lit w #[] 0 (Nat.le_refl _) (Nat.zero_le _) rfl) (below1 _ _))
  obtain ⟨v2, y2, r2, o2, b2, gg, k2, rfl⟩ := grp_more hn _ b1 _ o1 (w.heap.size + 1) c0 c1 c2 c3 c4 c5 h1 ((hg.block _ (by omega) (by simp [Value.ownBlock])).trans hB)
  exact ⟨d1, k1, y1, gg, k2, y2, r1, b1, r2, o2, b2⟩

theorem grp_C {w : World} {src : Value} {n : Nat} {old : List Value} (h : Src6 w src n old) (hn : n ≤ 1000000) (c0 c1 c2 c3 c4 c5 : Value) (h1 : ∀ u ∈ [c0, c1, c2, c3, c4, c5], u.oneCell' = true) :
    ∃ d1 k1 y1 gg k2 y2, (∀ ty, (Builtin.append_ #[23, 23] ty #[.slice (some ⟨w.heap.size + 1, 0, none⟩) 0 0, src]).run Tryz.prog ((w.alloc (.cells #[c0, c1, c2, c3, c4, c5] 26)).alloc (.cells #[] 26)) = .ok (.slice d1 n k1) y1) ∧ Below w.heap.size w y1 ∧
      (∀ ty, (Builtin.append_ #[23, 23] ty #[.slice d1 n k1, .slice (some ⟨w.heap.size, 0, none⟩) 1 1]).run Tryz.prog y1 = .ok (.slice (some ⟨gg, 0, none⟩) (n + 1) k2) y2) ∧
      y2.ownsRow w.heap.size 26 6 (.slice (some ⟨gg, 0, none⟩) (n + 1) k2) (n + 1) (old ++ [c0, c1, c2, c3, c4, c5]) ∧ Below w.heap.size w y2 := by
  have e1 : (w.alloc (.cells #[c0, c1, c2, c3, c4, c5] 26)).heap.size = w.heap.size + 1 := size_alloc _ _
  have e2 : ((w.alloc (.cells #[c0, c1, c2, c3, c4, c5] 26)).alloc (.cells #[] 26)).heap.size = w.heap.size + 2 := by rw [size_alloc, e1]
  have hB : ((w.alloc (.cells #[c0, c1, c2, c3, c4, c5] 26)).alloc (.cells #[] 26)).heap[w.heap.size]? = some (.cells #[c0, c1, c2, c3, c4, c5] 26) := ((below1 (w.alloc (.cells #[c0, c1, c2, c3, c4, c5] 26)) (.cells #[] 26)).block _ (by omega)).trans (heap_alloc_new w _)
  have hown := World.ownsRow_lit (w.alloc (.cells #[c0, c1, c2, c3, c4, c5] 26)) (base := w.heap.size) (e := 26) (size := 6) #[] 0 (by omega) (Nat.zero_le _) rfl
  rw [e1] at hown
  obtain ⟨v1, y1, r1, o1, b1, hg, d1, k1, rfl⟩ := grp_copy h hn _ (below2 w (.cells #[c0, c1, c2, c3, c4, c5] 26) (.cells #[] 26)) (.slice (some ⟨w.heap.size + 1, 0, none⟩) 0 0) hown
  obtain ⟨v2, y2, r2, o2, b2, gg, k2, rfl⟩ := grp_more hn _ b1 _ o1 w.heap.size c0 c1 c2 c3 c4 c5 h1 ((hg.block _ (by omega) (by simp [Value.ownBlock])).trans hB)
  exact ⟨d1, k1, y1, gg, k2, y2, r1, b1, r2, o2, b2⟩

/-- Behind a round. -/
theorem GMid.fin {w3 wm y2 y3 : World} {S : Nat → Prop} (hS : ∀ b, S b → b < w3.heap.size) {gs : List (List J)} {xs : List Value} {g0 m cap : Nat} {d : Option Addr} {n c : Nat} {last : List J} {old : List Value} (h : GMid w3 S wm gs xs g0 m cap d n c last old) (hn : n + 1 ≤ lim)
    {x : J} {c0 c1 c2 c3 c4 c5 : Value} (hrec : JRep w3 S x (.agg #[c0, c1, c2, c3, c4, c5])) {gg k2 : Nat} (hown : y2.ownsRow wm.heap.size 26 6 (.slice (some ⟨gg, 0, none⟩) (n + 1) k2) (n + 1) (old ++ [c0, c1, c2, c3, c4, c5])) (hb2 : Below wm.heap.size wm y2) (hb3 : Below y2.heap.size y2 y3) :
    ∃ xs', GInv w3 S (set6o y3 g0 (m * 6) (.int .i64 5) (.int .i64 0) (.string ⟨#[]⟩) (.slice (some ⟨gg, 0, none⟩) (n + 1) k2) (.slice none 0 0) (.slice none 0 0)) (addLast gs x) (.slice (some ⟨g0, 0, none⟩) (m + 1) cap) xs' := by
  have hy := hb2.trans (hb3.mono hb2.size)
  have e : addLast gs x = gs.set m (last ++ [x]) := by unfold addLast; rw [h.len, Nat.add_sub_cancel, h.lst]
  rw [e]
  have hgl := hown.lt gg rfl
  have hg0 := h.inv.own.lt g0 rfl
  have el : (last ++ [x]).length = n + 1 := by rw [List.length_append, h.hn]; rfl
  refine GInv.put hS h.inv h.len hy (last ++ [x]) _ ?_
  rw [← el] at hown ⊢
  have hlt : ∀ b, (S b ∨ beside w3.heap.size (.slice (some ⟨g0, 0, none⟩) (m + 1) cap) wm b) → b < wm.heap.size := fun b q => q.elim (fun q => Nat.lt_of_lt_of_le (hS b q) h.inv.bel.size) (fun q => q.2.1)
  refine slice_of_own (S := fun b => S b ∨ beside w3.heap.size (.slice (some ⟨g0, 0, none⟩) (m + 1) cap) y3 b) (own_below hown hb3) (Flat.snoc (hrec.keep (.of_below (h.inv.bel.trans (hy.mono h.inv.bel.size)) hS) (fun _ q => .inl q)) _ _ (h.flat.keep (.of_below hy hlt) (fun b q => q.imp_right fun q => ⟨q.1, Nat.lt_of_lt_of_le q.2.1 hy.size, q.2.2⟩))) (by omega) (fun b e => ?_)
  obtain rfl : gg = b := by simpa [Value.ownBlock] using e
  refine .inr ⟨Nat.le_trans h.inv.bel.size hgl.1, Nat.lt_of_lt_of_le hgl.2 hb3.size, fun e => ?_⟩
  have : g0 = gg := by simpa [Value.ownBlock] using e
  have := hg0.2
  omega
end Go.Gj
