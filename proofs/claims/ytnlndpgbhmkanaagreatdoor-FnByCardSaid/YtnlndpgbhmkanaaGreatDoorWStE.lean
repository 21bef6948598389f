/-
  sort.SliceStable: what is asked of the two closures; swapRange_func.
-/
import Derived.Test.YtnlndpgbhmkanaaGreatDoorPlX
import Derived.Test.YtnlndpgbhmkanaaGreatDoorWDelO
namespace Go.Gj
set_option linter.unusedSimpArgs false
set_option linter.unusedVariables false
set_option linter.unnecessarySimpa false
open Go Go.RowKit Go.Proofs

/-- All blocks below B stand, but for one. -/
structure Away (x B : Nat) (w w' : World) : Prop where
  os : w'.os = w.os
  tape : w'.tape = w.tape
  output : w'.output = w.output
  size : w.heap.size ≤ w'.heap.size
  block : ∀ k, k < B → k ≠ x → w'.heap[k]? = w.heap[k]?

theorem Away.refl (x B : Nat) (w : World) : Away x B w w := ⟨rfl, rfl, rfl, Nat.le_refl _, fun _ _ _ => rfl⟩
theorem Away.trans {x B : Nat} {a b c : World} (h : Away x B a b) (k : Away x B b c) : Away x B a c :=
  ⟨k.os.trans h.os, k.tape.trans h.tape, k.output.trans h.output, Nat.le_trans h.size k.size, fun i hi hx => (k.block i hi hx).trans (h.block i hi hx)⟩
theorem Away.mono {x B C : Nat} {w w' : World} (h : Away x B w w') (hc : C ≤ B) : Away x C w w' := ⟨h.os, h.tape, h.output, h.size, fun k hk hx => h.block k (by omega) hx⟩
theorem away_of {B : Nat} {w w' : World} (h : Below B w w') (x : Nat) : Away x B w w' := ⟨h.os, h.tape, h.output, h.size, fun k hk _ => h.block k hk⟩
theorem Away.below {x B C : Nat} {w w' : World} (h : Away x B w w') (hc : C ≤ B) (hx : C ≤ x) : Below C w w' := ⟨h.os, h.tape, h.output, h.size, fun k hk => h.block k (by omega) (by omega)⟩
theorem Away.cell {x B b o : Nat} {w w' : World} {s : Option _} (h : Away x B w w') (hb : b < B) (hx : b ≠ x) : w'.cell? ⟨b, o, s⟩ = w.cell? ⟨b, o, s⟩ := by
  unfold World.cell?
  rw [h.block b hb hx]

/-- What is asked of the closures 'less' and 'swap', whatever it is that they keep. -/
structure SEnv (blk n : Nat) (lt : Nat → Nat → Bool) (g sf : Nat) (lb sb : Array Value) (I : (Nat → Nat) → World → Prop) : Prop where
  eg : ∀ args w, (callFunc g args).run Tryz.prog w = .ok (.enter g args) w
  less : ∀ w d (i j : Nat), I d w → i < n → j < n → Calls Tryz.prog g (#[.int .i64 i, .int .i64 j] ++ lb) w fun e w' => e = .returned (.bool (lt (d i) (d j))) ∧ I d w' ∧ Away blk w.heap.size w w'
  swap : ∀ w d (i j : Nat), I d w → i < n → j < n → i ≠ j → ∃ w', (callFunc sf (#[.int .i64 i, .int .i64 j] ++ sb)).run Tryz.prog w = .ok (.value (.tuple #[])) w' ∧ I (swp d i j) w' ∧ Away blk w.heap.size w w'
  alloc : ∀ w d o, I d w → I d (w.alloc o)
  drew : ∀ w d, I d w → I d w.drew
  lt : ∀ w d, I d w → blk < w.heap.size
  hn : n < 2147483648

section
variable {blk n : Nat} {lt : Nat → Nat → Bool} {g sf : Nat} {lb sb : Array Value} {I : (Nat → Nat) → World → Prop}

set_option maxHeartbeats 1000000 in
set_option maxRecDepth 100000 in
theorem swapRange_ok (E : SEnv blk n lt g sf lb sb I) (a b k : Nat) (hab : a + k ≤ b) (hb : b + k ≤ n) (d : Nat → Nat) (w : World) (hI : I d w) :
    Calls Tryz.prog 337 #[.agg #[.func (.func g) #[] lb, .func (.func sf) #[] sb], .int .i64 a, .int .i64 b, .int .i64 k] w fun e w' =>
      e = .returned (.tuple #[]) ∧ I (swr d a b k) w' ∧ Away blk w.heap.size w w' := by
  have hn := E.hn
  have HE := Lib.hid E
  have hlt := E.lt _ _ hI
  have HI1 := Lib.hid (E.alloc w d (.cells #[.func (.func g) #[] lb, .func (.func sf) #[] sb] 267) hI)
  have HB1 := Lib.hid (away_of (below1 w (.cells #[.func (.func g) #[] lb, .func (.func sf) #[] sb] 267)) blk)
  have HC1 : Hid ((w.alloc (.cells #[.func (.func g) #[] lb, .func (.func sf) #[] sb] 267)).cell? ⟨w.heap.size, 1, none⟩ = some (.func (.func sf) #[] sb)) := Lib.hid (by unfold World.cell?; rw [heap_alloc_new]; rfl)
  clear hI E
  go_enter Tryz.func337, Tryz.ntmps337
  go_wp2_with fail
  go_loopw [8] (fun i wr => ∃ m : Nat, m ≤ k ∧ i = .int .i64 m ∧ I (swr d a b m) wr ∧ Away blk (w.heap.size + 1) (w.alloc (.cells #[.func (.func g) #[] lb, .func (.func sf) #[] sb] 267)) wr) (fun i _ => k - (Go.RowKit.intOf i).toNat)
  case atStart => exact ⟨0, Nat.zero_le _, rfl, by rw [swr_zero]; exact HI1.out, .refl _ _ _⟩
  case round =>
    obtain ⟨m, hm, rfl, hI, hA⟩ := hrel
    have HI := Lib.hid hI
    have HA := Lib.hid hA
    have c1 := HC1.out
    rw [← hA.cell (by omega) (by omega)] at c1
    have hsz := hA.size
    clear hI hA
    by_cases hmk : m < k
    · have hik : (m : Int) < k := by omega
      obtain ⟨w2, hs, hI2, hA2⟩ := HE.out.swap _ _ (a + m) (b + m) HI.out (by omega) (by omega) (by omega)
      rw [swr_succ d a b m (by omega)] at hI2
      rw [show ((a + m : Nat) : Int) = (a : Int) + m by omega, show ((b + m : Nat) : Int) = (b : Int) + m by omega] at hs
      have HI2 := Lib.hid hI2
      have HA2 := Lib.hid hA2
      clear hI2 hA2
      go_wp2_with fail
      go_roundw
      case rel => exact ⟨m + 1, hmk, by go_num, HI2.out, HA.out.trans (HA2.out.mono (by have := size_alloc w (.cells #[.func (.func g) #[] lb, .func (.func sf) #[] sb] 267); omega))⟩
      case measure => simp [Go.RowKit.intOf]; omega
    · have hik : ¬ (m : Int) < k := by omega
      obtain rfl : m = k := by omega
      go_wp2_with fail
      go_end0
      exact ⟨rfl, HI.out, HB1.out.trans (HA.out.mono (by omega))⟩
end
end Go.Gj

/-
  sort.SliceStable: rotate_func.
-/
namespace Go.Gj
set_option linter.unusedSimpArgs false
set_option linter.unusedVariables false
set_option linter.unnecessarySimpa false
open Go Go.RowKit Go.Proofs

section
variable {blk n : Nat} {lt : Nat → Nat → Bool} {g sf : Nat} {lb sb : Array Value} {I : (Nat → Nat) → World → Prop}

set_option maxHeartbeats 1000000 in
set_option maxRecDepth 100000 in
theorem rotate_ok (E : SEnv blk n lt g sf lb sb I) (a m b : Nat) (ham : a < m) (hmb : m < b) (hb : b ≤ n) (d : Nat → Nat) (w : World) (hI : I d w) :
    Calls Tryz.prog 318 #[.agg #[.func (.func g) #[] lb, .func (.func sf) #[] sb], .int .i64 a, .int .i64 m, .int .i64 b] w fun e w' =>
      e = .returned (.tuple #[]) ∧ I (rot d a m b) w' ∧ Away blk w.heap.size w w' := by
  have hn := E.hn
  have HE := Lib.hid E
  have hlt := E.lt _ _ hI
  have HI1 := Lib.hid (E.alloc w d (.cells #[.func (.func g) #[] lb, .func (.func sf) #[] sb] 267) hI)
  have HB1 := Lib.hid (away_of (below1 w (.cells #[.func (.func g) #[] lb, .func (.func sf) #[] sb] 267)) blk)
  have HC1 : Hid ((w.alloc (.cells #[.func (.func g) #[] lb, .func (.func sf) #[] sb] 267)).cell? ⟨w.heap.size, 0, none⟩ = some (.func (.func g) #[] lb) ∧ (w.alloc (.cells #[.func (.func g) #[] lb, .func (.func sf) #[] sb] 267)).cell? ⟨w.heap.size, 1, none⟩ = some (.func (.func sf) #[] sb)) := Lib.hid (by unfold World.cell?; rw [heap_alloc_new]; exact ⟨rfl, rfl⟩)
  clear hI E
  go_enter Tryz.func318, Tryz.ntmps318
  go_wp2_with fail
  have hsz0 := size_alloc w (.cells #[.func (.func g) #[] lb, .func (.func sf) #[] sb] 267)
  generalize hw1 : w.alloc (.cells #[.func (.func g) #[] lb, .func (.func sf) #[] sb] 267) = w1 at HI1 HB1 HC1 hsz0 ⊢
  clear hw1
  go_loopw [8, 9] (fun v8 v9 wr => ∃ (i j : Nat) (dk : Nat → Nat), v8 = .int .i64 i ∧ v9 = .int .i64 j ∧ 0 < i ∧ 0 < j ∧ i ≤ m ∧ m + j ≤ n ∧ rot d a m b = rot dk (m - i) m (m + j) ∧ I dk wr ∧ Away blk (w.heap.size + 1) w1 wr) (fun v8 v9 _ => (Go.RowKit.intOf v8).toNat + (Go.RowKit.intOf v9).toNat)
  case atStart => exact ⟨m - a, b - m, d, by go_num, by go_num, by omega, by omega, by omega, by omega, by rw [show m - (m - a) = a by omega, show m + (b - m) = b by omega], HI1.out, .refl _ _ _⟩
  case round =>
    obtain ⟨i, j, dk, rfl, rfl, hi0, hj0, him, hjn, hrot, hI, hA⟩ := hrel
    have HI := Lib.hid hI
    have HA := Lib.hid hA
    have HR := Lib.hid hrot
    obtain ⟨c0, c1⟩ := HC1.out
    rw [← hA.cell (by omega) (by omega)] at c0 c1
    have hsz := hA.size
    clear hI hA hrot
    by_cases hij : i = j
    · subst hij
      have hs := swapRange_ok HE.out (m - i) m i (by omega) (by omega) dk _ HI.out
      rw [← rot_eq dk m i him, ← HR.out, show ((m - i : Nat) : Int) = (m : Int) - i by omega] at hs
      have HS := Lib.hid hs
      clear hs
      go_wp2_with (go_at_call 337; refine HS.out.mono ?_; rintro e w2 ⟨rfl, hI2, hA2⟩; have HI2 := Lib.hid hI2; have HA2 := Lib.hid hA2; clear hI2 hA2)
      go_end0
      exact ⟨rfl, HI2.out, HB1.out.trans ((HA.out.mono (by omega)).trans (HA2.out.mono (by omega)))⟩
    · have hne : ¬ (i : Int) = j := by omega
      by_cases hgt : j < i
      · have hgt' : (i : Int) > j := by omega
        have hs := swapRange_ok HE.out (m - i) m j (by omega) (by omega) dk _ HI.out
        rw [show ((m - i : Nat) : Int) = (m : Int) - i by omega] at hs
        have HS := Lib.hid hs
        clear hs
        go_wp2_with (go_at_call 337; refine HS.out.mono ?_; rintro e w2 ⟨rfl, hI2, hA2⟩; have HI2 := Lib.hid hI2; have HA2 := Lib.hid hA2; clear hI2 hA2)
        go_roundw
        case rel => exact ⟨i - j, j, _, by go_num, rfl, by omega, hj0, by omega, hjn, by rw [HR.out, rot_gt dk m i j him hgt, show m - i + j = m - (i - j) by omega], HI2.out, HA.out.trans (HA2.out.mono (by omega))⟩
        case measure => simp [Go.RowKit.intOf]; omega
      · have hgt' : ¬ (i : Int) > j := by omega
        have hs := swapRange_ok HE.out (m - i) (m + j - i) i (by omega) (by omega) dk _ HI.out
        rw [show ((m - i : Nat) : Int) = (m : Int) - i by omega, show ((m + j - i : Nat) : Int) = (m : Int) + j - i by omega] at hs
        have HS := Lib.hid hs
        clear hs
        go_wp2_with (go_at_call 337; refine HS.out.mono ?_; rintro e w2 ⟨rfl, hI2, hA2⟩; have HI2 := Lib.hid hI2; have HA2 := Lib.hid hA2; clear hI2 hA2)
        go_roundw
        case rel => exact ⟨i, j - i, _, rfl, by go_num, hi0, by omega, him, by omega, by rw [HR.out, rot_lt dk m i j him (by omega), show m + j - i = m + (j - i) by omega], HI2.out, HA.out.trans (HA2.out.mono (by omega))⟩
        case measure => simp [Go.RowKit.intOf]; omega
end
end Go.Gj

/-
  sort.SliceStable: insertionSort_func.
-/
namespace Go.Gj
set_option linter.unusedSimpArgs false
set_option linter.unusedVariables false
set_option linter.unnecessarySimpa false
open Go Go.RowKit Go.Proofs

theorem Sh.rsh (d : Nat → Nat) (i m : Nat) (h : i ≤ m) : Sh i (m + 1) d (rsh d i m) := by
  refine ⟨fun k hk => ?_, fun k h3 h4 => ?_, fun k h3 h4 => ?_⟩
  · unfold Go.Gj.rsh
    repeat' split
    all_goals first | rfl | (exfalso; omega)
  · unfold Go.Gj.rsh
    repeat' split
    all_goals first | (exfalso; omega) | exact ⟨_, by omega, by omega, rfl⟩
  · by_cases hk : k < m
    · refine ⟨k + 1, by omega, by omega, ?_⟩
      unfold Go.Gj.rsh
      rw [if_pos (by omega)]
      congr 1
    · refine ⟨i, by omega, by omega, ?_⟩
      unfold Go.Gj.rsh
      rw [if_neg (by omega), if_pos rfl]
      congr 1
      omega

theorem rsh_step' (d : Nat → Nat) (j m : Nat) (h : 0 < j) (hj : j ≤ m) : swp (rsh d j m) j (j - 1) = rsh d (j - 1) m := by
  obtain ⟨k, rfl⟩ : ∃ k, j = k + 1 := ⟨j - 1, by omega⟩
  exact rsh_step d k m hj
theorem rsh_at (d : Nat → Nat) (j m : Nat) (h : j ≤ m) : rsh d j m j = d m := by
  unfold rsh
  rw [if_neg (by omega), if_pos rfl]
theorem rsh_before (d : Nat → Nat) (j m k : Nat) (h : k < j) : rsh d j m k = d k := by
  unfold rsh
  rw [if_neg (by omega), if_neg (by omega)]

theorem lt_ext {lt : Nat → Nat → Bool} {d : Nat → Nat} {x i j : Nat} (h : ∀ k, j ≤ k → k < i → lt x (d k) = true) (h1 : lt x (d (j - 1)) = true) : ∀ k, j - 1 ≤ k → k < i → lt x (d k) = true := fun k h2 h3 => by
  rcases Nat.lt_or_ge k j with h4 | h4
  · obtain rfl : k = j - 1 := by omega
    exact h1
  · exact h k h4 h3

section
variable {blk n : Nat} {lt : Nat → Nat → Bool} {g sf : Nat} {lb sb : Array Value} {I : (Nat → Nat) → World → Prop}

/-- One more element is in its place. -/
theorem ins_next (W : Wk lt) {d di : Nat → Nat} {a b i j : Nat} (hinc : ∀ x y, a ≤ x → x < y → y < b → d x < d y) (hai : a < i) (hib : i < b) (hs : Sh a i d di) (hso : SortedOn lt di a i)
    (haj : a ≤ j) (hji : j ≤ i) (h2 : ∀ k, j ≤ k → k < i → lt (di i) (di k) = true) (h1 : j ≤ a ∨ lt (di i) (di (j - 1)) = false) :
    Sh a (i + 1) d (rsh di j i) ∧ SortedOn lt (rsh di j i) a (i + 1) := by
  refine ⟨(hs.mono (Nat.le_refl _) (by omega)).trans ((Sh.rsh di j i hji).mono haj (Nat.le_refl _)), sorted_rsh W hso haj hji (fun x y g1 g2 g3 g4 => ?_) (fun k g1 g2 => ?_) h2⟩
  · obtain rfl : y = i := by omega
    obtain ⟨k', k1, k2, k3⟩ := hs.new x g1 g2
    rw [k3, hs.out y (by omega)]
    exact hinc _ _ k1 k2 hib
  · rcases h1 with h1 | h1
    · omega
    · rcases Nat.lt_or_ge k (j - 1) with h | h
      · exact W.tr _ _ _ (hso k (j - 1) g1 h (by omega)).1 h1
      · obtain rfl : k = j - 1 := by omega
        exact h1

set_option maxHeartbeats 1000000 in
set_option maxRecDepth 100000 in
theorem insertion_ok (E : SEnv blk n lt g sf lb sb I) (W : Wk lt) (a b : Nat) (hab : a ≤ b) (hb : b ≤ n) (d : Nat → Nat) (hinc : ∀ x y, a ≤ x → x < y → y < b → d x < d y) (w : World) (hI : I d w) :
    Calls Tryz.prog 274 #[.agg #[.func (.func g) #[] lb, .func (.func sf) #[] sb], .int .i64 a, .int .i64 b] w fun e w' =>
      e = .returned (.tuple #[]) ∧ (∃ d', I d' w' ∧ Sh a b d d' ∧ SortedOn lt d' a b) ∧ Away blk w.heap.size w w' := by
  have hn := E.hn
  have HE := Lib.hid E
  have hlt := E.lt _ _ hI
  have HI1 := Lib.hid (E.alloc w d (.cells #[.func (.func g) #[] lb, .func (.func sf) #[] sb] 267) hI)
  have HB1 := Lib.hid (away_of (below1 w (.cells #[.func (.func g) #[] lb, .func (.func sf) #[] sb] 267)) blk)
  have HC1 : Hid ((w.alloc (.cells #[.func (.func g) #[] lb, .func (.func sf) #[] sb] 267)).cell? ⟨w.heap.size, 0, none⟩ = some (.func (.func g) #[] lb) ∧ (w.alloc (.cells #[.func (.func g) #[] lb, .func (.func sf) #[] sb] 267)).cell? ⟨w.heap.size, 1, none⟩ = some (.func (.func sf) #[] sb)) := Lib.hid (by unfold World.cell?; rw [heap_alloc_new]; exact ⟨rfl, rfl⟩)
  have HINC := Lib.hid hinc
  have HW := Lib.hid W
  have eg := E.eg
  clear hI E hinc W
  go_enter Tryz.func274, Tryz.ntmps274
  go_wp2_with fail
  have hsz0 := size_alloc w (.cells #[.func (.func g) #[] lb, .func (.func sf) #[] sb] 267)
  generalize hw1 : w.alloc (.cells #[.func (.func g) #[] lb, .func (.func sf) #[] sb] 267) = w1 at HI1 HB1 HC1 hsz0 ⊢
  clear hw1
  go_loopw [6] (fun v6 wr => ∃ (i : Nat) (di : Nat → Nat), v6 = .int .i64 i ∧ a < i ∧ i ≤ n + 1 ∧ Sh a (min i b) d di ∧ SortedOn lt di a (min i b) ∧ I di wr ∧ Away blk (w.heap.size + 1) w1 wr) (fun v6 _ => b - (Go.RowKit.intOf v6).toNat)
  case atStart => exact ⟨a + 1, d, by go_num, by omega, by omega, .refl _ _ _, fun i j h1 h2 h3 => by omega, HI1.out, .refl _ _ _⟩
  case round =>
    obtain ⟨i, di, rfl, hai, hin, hsh, hso, hI, hA⟩ := hrel
    by_cases hib : i < b
    · rw [Nat.min_eq_left (by omega)] at hsh hso
      have HSH := Lib.hid hsh
      have HSO := Lib.hid hso
      have HI := Lib.hid hI
      have HA := Lib.hid hA
      clear hsh hso hI hA
      go_wp2_with fail
      go_loopw [7] (fun v7 wq => ∃ (j : Nat), v7 = .int .i64 j ∧ a ≤ j ∧ j ≤ i ∧ (∀ k, j ≤ k → k < i → lt (di i) (di k) = true) ∧ I (rsh di j i) wq ∧ Away blk (w.heap.size + 1) w1 wq) (fun v7 _ => (Go.RowKit.intOf v7).toNat)
      case atStart => exact ⟨i, rfl, by omega, Nat.le_refl _, fun k h1 h2 => by omega, by rw [rsh_start]; exact HI.out, HA.out⟩
      case round =>
        obtain ⟨j, rfl, haj, hji, hk, hI, hA⟩ := hrel
        have HI2 := Lib.hid hI
        have HA2 := Lib.hid hA
        have HK := Lib.hid hk
        obtain ⟨c0, c1⟩ := HC1.out
        rw [← hA.cell (by omega) (by omega)] at c0 c1
        have hsz := hA.size
        clear hI hA hk
        have HOUT : Hid ((j ≤ a ∨ lt (di i) (di (j - 1)) = false) → Sh a (i + 1) d (rsh di j i) ∧ SortedOn lt (rsh di j i) a (i + 1)) := Lib.hid fun h => ins_next HW.out HINC.out hai hib HSH.out HSO.out haj hji HK.out h
        by_cases hja : a < j
        · have hja' : (j : Int) > a := by omega
          have hl := HE.out.less _ _ j (j - 1) HI2.out (by omega) (by omega)
          rw [rsh_at di j i hji, rsh_before di j i (j - 1) (by omega), show ((j - 1 : Nat) : Int) = (j : Int) - 1 by omega] at hl
          have HL := Lib.hid hl
          clear hl
          cases hlv : lt (di i) (di (j - 1)) with
          | true =>
            rw [hlv] at HL
            go_wp2_with (go_at_fn g; refine HL.out.mono ?_; rintro e w3 ⟨rfl, hI3, hA3⟩; obtain ⟨w4, hs, hI4, hA4⟩ := HE.out.swap _ _ j (j - 1) hI3 (by omega) (by omega) (by omega); rw [show ((j - 1 : Nat) : Int) = (j : Int) - 1 by omega] at hs; rw [← hA3.cell (by omega) (by omega)] at c0 c1; have HI4 := Lib.hid hI4; have HA4 := Lib.hid (hA3.trans (hA4.mono hA3.size)); clear hI3 hA3 hI4 hA4)
            go_roundw
            case rel => exact ⟨j - 1, by go_num, by omega, by omega, lt_ext HK.out hlv, (by rw [← rsh_step' di j i (by omega) hji]; exact HI4.out), HA2.out.trans (HA4.out.mono (by omega))⟩
            case measure => simp [Go.RowKit.intOf]; omega
          | false =>
            rw [hlv] at HL
            go_wp2_with (go_at_fn g; refine HL.out.mono ?_; rintro e w3 ⟨rfl, hI3, hA3⟩; have HI3 := Lib.hid hI3; have HA3 := Lib.hid hA3; clear hI3 hA3)
            go_roundw
            case rel => exact ⟨i + 1, rsh di j i, by go_num, by omega, by omega, (by rw [Nat.min_eq_left (by omega)]; exact (HOUT.out (.inr hlv)).1), (by rw [Nat.min_eq_left (by omega)]; exact (HOUT.out (.inr hlv)).2), HI3.out, HA2.out.trans (HA3.out.mono (by omega))⟩
            case measure => simp [Go.RowKit.intOf]; omega
        · have hja' : ¬ (j : Int) > a := by omega
          go_wp2_with fail
          go_roundw
          case rel => exact ⟨i + 1, rsh di j i, by go_num, by omega, by omega, (by rw [Nat.min_eq_left (by omega)]; exact (HOUT.out (.inl (by omega))).1), (by rw [Nat.min_eq_left (by omega)]; exact (HOUT.out (.inl (by omega))).2), HI2.out, HA2.out⟩
          case measure => simp [Go.RowKit.intOf]; omega
    · rw [Nat.min_eq_right (by omega)] at hsh hso
      have HEND := Lib.hid (And.intro hI (And.intro hsh hso))
      have HA := Lib.hid hA
      clear hI hsh hso hA
      have hib' : ¬ (i : Int) < b := by omega
      go_wp2_with fail
      go_end0
      exact ⟨rfl, ⟨di, HEND.out⟩, HB1.out.trans (HA.out.mono (by omega))⟩
end
end Go.Gj

/-
  sort.SliceStable: symMerge_func where one of the rows has one element.
-/
namespace Go.Gj
set_option linter.unusedSimpArgs false
set_option linter.unusedVariables false
set_option linter.unnecessarySimpa false
open Go Go.RowKit Go.Proofs

theorem Sh.lsh (d : Nat → Nat) (a i : Nat) (h : a < i) : Sh a i d (lsh d a i) := by
  refine ⟨fun k hk => ?_, fun k h3 h4 => ?_, fun k h3 h4 => ?_⟩
  · unfold Go.Gj.lsh
    repeat' split
    all_goals first | rfl | (exfalso; omega)
  · unfold Go.Gj.lsh
    repeat' split
    all_goals first | (exfalso; omega) | exact ⟨_, by omega, by omega, rfl⟩
  · by_cases hk : k = a
    · refine ⟨i - 1, by omega, by omega, ?_⟩
      unfold Go.Gj.lsh
      rw [if_neg (by omega), if_pos (by omega)]
      rw [hk]
    · refine ⟨k - 1, by omega, by omega, ?_⟩
      unfold Go.Gj.lsh
      rw [if_pos (by omega)]
      congr 1
      omega

theorem first_mono {lt : Nat → Nat → Bool} (W : Wk lt) {d : Nat → Nat} {a b k h : Nat} (hr : SortedOn lt d (a + 1) b) (hs : Sep d a (a + 1) b) (h1 : a + 1 ≤ k) (h2 : k ≤ h) (h3 : h < b) (hl : lt (d h) (d a) = true) : lt (d k) (d a) = true := by
  rcases Nat.lt_or_ge k h with h4 | h4
  · exact lt_of_prec (hs a k (by omega) (by omega) h1 (by omega)) (prec_trans W (hr k h h1 h4 h3) (prec_of_lt (W := W) hl))
  · obtain rfl : k = h := by omega
    exact hl
theorem first_mono' {lt : Nat → Nat → Bool} (W : Wk lt) {d : Nat → Nat} {a b k h : Nat} (hr : SortedOn lt d (a + 1) b) (hs : Sep d a (a + 1) b) (h1 : a + 1 ≤ h) (h2 : h ≤ k) (h3 : k < b) (hl : lt (d h) (d a) = false) : lt (d k) (d a) = false := by
  cases hx : lt (d k) (d a) with
  | false => rfl
  | true => rw [first_mono W hr hs h1 h2 h3 hx] at hl; cases hl

section
variable {blk n : Nat} {lt : Nat → Nat → Bool} {g sf : Nat} {lb sb : Array Value} {I : (Nat → Nat) → World → Prop}

set_option maxHeartbeats 1000000 in
set_option maxRecDepth 100000 in
theorem sym_first (E : SEnv blk n lt g sf lb sb I) (W : Wk lt) (a m b : Nat) (hm : m = a + 1) (hmb : a + 1 < b) (hb : b ≤ n) (d : Nat → Nat) (hr : SortedOn lt d (a + 1) b) (hs : Sep d a (a + 1) b) (w : World) (hI : I d w) :
    Calls Tryz.prog 275 #[.agg #[.func (.func g) #[] lb, .func (.func sf) #[] sb], .int .i64 a, .int .i64 m, .int .i64 b] w fun e w' =>
      e = .returned (.tuple #[]) ∧ (∃ d', I d' w' ∧ Sh a b d d' ∧ SortedOn lt d' a b) ∧ Away blk w.heap.size w w' := by
  have hn := E.hn
  have HE := Lib.hid E
  have hlt := E.lt _ _ hI
  have HI1 := Lib.hid (E.alloc w d (.cells #[.func (.func g) #[] lb, .func (.func sf) #[] sb] 267) hI)
  have HB1 := Lib.hid (away_of (below1 w (.cells #[.func (.func g) #[] lb, .func (.func sf) #[] sb] 267)) blk)
  have HC1 : Hid ((w.alloc (.cells #[.func (.func g) #[] lb, .func (.func sf) #[] sb] 267)).cell? ⟨w.heap.size, 0, none⟩ = some (.func (.func g) #[] lb) ∧ (w.alloc (.cells #[.func (.func g) #[] lb, .func (.func sf) #[] sb] 267)).cell? ⟨w.heap.size, 1, none⟩ = some (.func (.func sf) #[] sb)) := Lib.hid (by unfold World.cell?; rw [heap_alloc_new]; exact ⟨rfl, rfl⟩)
  have HR := Lib.hid hr
  have HS := Lib.hid hs
  have HW := Lib.hid W
  have eg := E.eg
  have h1 : ((m : Int) - a == 1) = true := by rw [beq_iff_eq]; omega
  have hm1 : a + 1 ≤ m := by omega
  have hm2 : m ≤ a + 1 := by omega
  clear hm
  clear hI E W hr hs
  go_enter Tryz.func275, Tryz.ntmps275
  go_wp2_with fail
  have hsz0 := size_alloc w (.cells #[.func (.func g) #[] lb, .func (.func sf) #[] sb] 267)
  generalize hw1 : w.alloc (.cells #[.func (.func g) #[] lb, .func (.func sf) #[] sb] 267) = w1 at HI1 HB1 HC1 hsz0 ⊢
  clear hw1
  go_loopw [8, 9] (fun v8 v9 wr => ∃ (i j : Nat), v8 = .int .i64 i ∧ v9 = .int .i64 j ∧ a + 1 ≤ i ∧ i ≤ j ∧ j ≤ b ∧ (∀ k, a + 1 ≤ k → k < i → lt (d k) (d a) = true) ∧ (∀ k, j ≤ k → k < b → lt (d k) (d a) = false) ∧ I d wr ∧ Away blk (w.heap.size + 1) w1 wr) (fun v8 v9 _ => (Go.RowKit.intOf v9).toNat - (Go.RowKit.intOf v8).toNat)
  case atStart => exact ⟨m, b, rfl, rfl, by omega, by omega, by omega, fun k h1 h2 => by omega, fun k h1 h2 => by omega, HI1.out, .refl _ _ _⟩
  case round =>
    obtain ⟨i, j, rfl, rfl, hai, hij, hjb, hki, hkj, hI, hA⟩ := hrel
    have HI := Lib.hid hI
    have HA := Lib.hid hA
    have HKI := Lib.hid hki
    have HKJ := Lib.hid hkj
    obtain ⟨c0, c1⟩ := HC1.out
    rw [← hA.cell (by omega) (by omega)] at c0 c1
    have hsz := hA.size
    clear hI hA hki hkj
    by_cases hlt2 : i < j
    · have hl := HE.out.less _ _ ((i + j) / 2) a HI.out (by omega) (by omega)
      have HL := Lib.hid hl
      clear hl
      rw [show (((i + j) / 2 : Nat) : Int) = ((i : Int) + j) / 2 by omega] at HL
      have hi1 : i ≤ (i + j) / 2 := by omega
      have hi2 : (i + j) / 2 < j := by omega
      cases hlv : lt (d ((i + j) / 2)) (d a) with
      | true =>
        rw [hlv] at HL
        go_wp2_with (go_at_fn g; refine HL.out.mono ?_; rintro e w3 ⟨rfl, hI3, hA3⟩; have HI3 := Lib.hid hI3; have HA3 := Lib.hid hA3; clear hI3 hA3)
        go_roundw
        case rel => exact ⟨(i + j) / 2 + 1, j, by go_num, rfl, by omega, by omega, by omega, fun k g1 g2 => first_mono HW.out HR.out HS.out g1 (by omega) (by omega) hlv, HKJ.out, HI3.out, HA.out.trans (HA3.out.mono (by omega))⟩
        case measure => simp [Go.RowKit.intOf]; omega
      | false =>
        rw [hlv] at HL
        go_wp2_with (go_at_fn g; refine HL.out.mono ?_; rintro e w3 ⟨rfl, hI3, hA3⟩; have HI3 := Lib.hid hI3; have HA3 := Lib.hid hA3; clear hI3 hA3)
        go_roundw
        case rel => exact ⟨i, (i + j) / 2, rfl, by go_num, by omega, by omega, by omega, HKI.out, fun k g1 g2 => first_mono' HW.out HR.out HS.out (by omega) g1 g2 hlv, HI3.out, HA.out.trans (HA3.out.mono (by omega))⟩
        case measure => simp [Go.RowKit.intOf]; omega
    · obtain rfl : i = j := by omega
      have hres : SortedOn lt (lsh d a i) a b := sorted_lsh HW.out HR.out (by omega) hjb HS.out HKI.out HKJ.out
      have HRES := Lib.hid (And.intro ((Sh.lsh d a i (by omega)).mono (Nat.le_refl _) hjb) hres)
      clear hres
      have hlt3 : ¬ (i : Int) < i := by omega
      go_wp2_with fail
      go_loopw [11] (fun v11 wq => ∃ k : Nat, v11 = .int .i64 k ∧ a ≤ k ∧ k + 1 ≤ i ∧ I (lsh d a (k + 1)) wq ∧ Away blk (w.heap.size + 1) w1 wq) (fun v11 _ => i - (Go.RowKit.intOf v11).toNat)
      case atStart => exact ⟨a, rfl, by omega, by omega, by rw [lsh_start]; exact HI.out, HA.out⟩
      case round =>
        obtain ⟨k, rfl, hak, hki, hI, hA⟩ := hrel
        have HI2 := Lib.hid hI
        have HA2 := Lib.hid hA
        clear c0 c1
        obtain ⟨c0, c1⟩ := HC1.out
        rw [← hA.cell (by omega) (by omega)] at c0 c1
        have hsz2 := hA.size
        clear hI hA
        by_cases hk : k + 1 < i
        · have hk' : (k : Int) < (i : Int) - 1 := by omega
          obtain ⟨w4, hs, hI4, hA4⟩ := HE.out.swap _ _ k (k + 1) HI2.out (by omega) (by omega) (by omega)
          rw [show ((k + 1 : Nat) : Int) = (k : Int) + 1 by omega] at hs
          have HI4 := Lib.hid hI4
          have HA4 := Lib.hid hA4
          clear hI4 hA4
          go_wp2_with fail
          go_roundw
          case rel => exact ⟨k + 1, by go_num, by omega, by omega, (by rw [← lsh_step d a k hak]; exact HI4.out), HA2.out.trans (HA4.out.mono (by omega))⟩
          case measure => simp [Go.RowKit.intOf]; omega
        · obtain rfl : k + 1 = i := by omega
          have hk' : ¬ (k : Int) < ((k + 1 : Nat) : Int) - 1 := by omega
          go_wp2_with fail
          first
            | (go_end0; exact ⟨rfl, ⟨_, HI2.out, HRES.out⟩, HB1.out.trans (HA2.out.mono (by omega))⟩)
            | (refine bodyPost_ret (results_none rfl _ _ _) rfl ?_; exact ⟨rfl, ⟨_, HI2.out, HRES.out⟩, HB1.out.trans (HA2.out.mono (by omega))⟩)
end
end Go.Gj

/-
  sort.SliceStable: symMerge_func where the second row has one element.
-/
namespace Go.Gj
set_option linter.unusedSimpArgs false
set_option linter.unusedVariables false
set_option linter.unnecessarySimpa false
open Go Go.RowKit Go.Proofs

theorem last_mono' {lt : Nat → Nat → Bool} (W : Wk lt) {d : Nat → Nat} {a m k h : Nat} (hr : SortedOn lt d a m) (h1 : a ≤ k) (h2 : k ≤ h) (h3 : h < m) (hl : lt (d m) (d h) = false) : lt (d m) (d k) = false := by
  rcases Nat.lt_or_ge k h with h4 | h4
  · exact W.tr _ _ _ (hr k h h1 h4 h3).1 hl
  · obtain rfl : k = h := by omega
    exact hl
theorem last_mono {lt : Nat → Nat → Bool} (W : Wk lt) {d : Nat → Nat} {a m k h : Nat} (hr : SortedOn lt d a m) (h1 : a ≤ h) (h2 : h ≤ k) (h3 : k < m) (hl : lt (d m) (d h) = true) : lt (d m) (d k) = true := by
  cases hx : lt (d m) (d k) with
  | true => rfl
  | false => rw [last_mono' W hr h1 h2 h3 hx] at hl; cases hl

section
variable {blk n : Nat} {lt : Nat → Nat → Bool} {g sf : Nat} {lb sb : Array Value} {I : (Nat → Nat) → World → Prop}

set_option maxHeartbeats 1000000 in
set_option maxRecDepth 100000 in
theorem sym_last (E : SEnv blk n lt g sf lb sb I) (W : Wk lt) (a m b : Nat) (ham : a + 1 < m) (hm : b = m + 1) (hb : b ≤ n) (d : Nat → Nat) (hr : SortedOn lt d a m) (hs : Sep d a m (m + 1)) (w : World) (hI : I d w) :
    Calls Tryz.prog 275 #[.agg #[.func (.func g) #[] lb, .func (.func sf) #[] sb], .int .i64 a, .int .i64 m, .int .i64 b] w fun e w' =>
      e = .returned (.tuple #[]) ∧ (∃ d', I d' w' ∧ Sh a (m + 1) d d' ∧ SortedOn lt d' a (m + 1)) ∧ Away blk w.heap.size w w' := by
  have hn := E.hn
  have HE := Lib.hid E
  have hlt := E.lt _ _ hI
  have HI1 := Lib.hid (E.alloc w d (.cells #[.func (.func g) #[] lb, .func (.func sf) #[] sb] 267) hI)
  have HB1 := Lib.hid (away_of (below1 w (.cells #[.func (.func g) #[] lb, .func (.func sf) #[] sb] 267)) blk)
  have HC1 : Hid ((w.alloc (.cells #[.func (.func g) #[] lb, .func (.func sf) #[] sb] 267)).cell? ⟨w.heap.size, 0, none⟩ = some (.func (.func g) #[] lb) ∧ (w.alloc (.cells #[.func (.func g) #[] lb, .func (.func sf) #[] sb] 267)).cell? ⟨w.heap.size, 1, none⟩ = some (.func (.func sf) #[] sb)) := Lib.hid (by unfold World.cell?; rw [heap_alloc_new]; exact ⟨rfl, rfl⟩)
  have HR := Lib.hid hr
  have HS := Lib.hid hs
  have HW := Lib.hid W
  have eg := E.eg
  have h1 : ((m : Int) - a == 1) = false := by rw [beq_eq_false_iff_ne]; omega
  have h2 : ((b : Int) - m == 1) = true := by rw [beq_iff_eq]; omega
  have hm1 : m + 1 ≤ b := by omega
  have hm2 : b ≤ m + 1 := by omega
  clear hI E W hr hs hm
  go_enter Tryz.func275, Tryz.ntmps275
  go_wp2_with fail
  have hsz0 := size_alloc w (.cells #[.func (.func g) #[] lb, .func (.func sf) #[] sb] 267)
  generalize hw1 : w.alloc (.cells #[.func (.func g) #[] lb, .func (.func sf) #[] sb] 267) = w1 at HI1 HB1 HC1 hsz0 ⊢
  clear hw1
  go_loopw [12, 13] (fun v12 v13 wr => ∃ (i j : Nat), v12 = .int .i64 i ∧ v13 = .int .i64 j ∧ a ≤ i ∧ i ≤ j ∧ j ≤ m ∧ (∀ k, a ≤ k → k < i → lt (d m) (d k) = false) ∧ (∀ k, j ≤ k → k < m → lt (d m) (d k) = true) ∧ I d wr ∧ Away blk (w.heap.size + 1) w1 wr) (fun v12 v13 _ => (Go.RowKit.intOf v13).toNat - (Go.RowKit.intOf v12).toNat)
  case atStart => exact ⟨a, m, rfl, rfl, by omega, by omega, by omega, fun k h1 h2 => by omega, fun k h1 h2 => by omega, HI1.out, .refl _ _ _⟩
  case round =>
    obtain ⟨i, j, rfl, rfl, hai, hij, hjb, hki, hkj, hI, hA⟩ := hrel
    have HI := Lib.hid hI
    have HA := Lib.hid hA
    have HKI := Lib.hid hki
    have HKJ := Lib.hid hkj
    obtain ⟨c0, c1⟩ := HC1.out
    rw [← hA.cell (by omega) (by omega)] at c0 c1
    have hsz := hA.size
    clear hI hA hki hkj
    by_cases hlt2 : i < j
    · have hl := HE.out.less _ _ m ((i + j) / 2) HI.out (by omega) (by omega)
      have HL := Lib.hid hl
      clear hl
      rw [show (((i + j) / 2 : Nat) : Int) = ((i : Int) + j) / 2 by omega] at HL
      have hi1 : i ≤ (i + j) / 2 := by omega
      have hi2 : (i + j) / 2 < j := by omega
      cases hlv : lt (d m) (d ((i + j) / 2)) with
      | false =>
        rw [hlv] at HL
        go_wp2_with (go_at_fn g; refine HL.out.mono ?_; rintro e w3 ⟨rfl, hI3, hA3⟩; have HI3 := Lib.hid hI3; have HA3 := Lib.hid hA3; clear hI3 hA3)
        go_roundw
        case rel => exact ⟨(i + j) / 2 + 1, j, by go_num, rfl, by omega, by omega, by omega, fun k g1 g2 => last_mono' HW.out HR.out g1 (by omega) (by omega) hlv, HKJ.out, HI3.out, HA.out.trans (HA3.out.mono (by omega))⟩
        case measure => simp [Go.RowKit.intOf]; omega
      | true =>
        rw [hlv] at HL
        go_wp2_with (go_at_fn g; refine HL.out.mono ?_; rintro e w3 ⟨rfl, hI3, hA3⟩; have HI3 := Lib.hid hI3; have HA3 := Lib.hid hA3; clear hI3 hA3)
        go_roundw
        case rel => exact ⟨i, (i + j) / 2, rfl, by go_num, by omega, by omega, by omega, HKI.out, fun k g1 g2 => last_mono HW.out HR.out (by omega) g1 g2 hlv, HI3.out, HA.out.trans (HA3.out.mono (by omega))⟩
        case measure => simp [Go.RowKit.intOf]; omega
    · obtain rfl : i = j := by omega
      have HRES := Lib.hid (And.intro ((Sh.rsh d i m hjb).mono hai (Nat.le_refl _)) (sorted_rsh HW.out HR.out hai hjb HS.out HKI.out HKJ.out))
      have hlt3 : ¬ (i : Int) < i := by omega
      go_wp2_with fail
      go_loopw [15] (fun v15 wq => ∃ k : Nat, v15 = .int .i64 k ∧ i ≤ k ∧ k ≤ m ∧ I (rsh d k m) wq ∧ Away blk (w.heap.size + 1) w1 wq) (fun v15 _ => (Go.RowKit.intOf v15).toNat)
      case atStart => exact ⟨m, rfl, by omega, by omega, by rw [rsh_start]; exact HI.out, HA.out⟩
      case round =>
        obtain ⟨k, rfl, hik, hkm, hI, hA⟩ := hrel
        have HI2 := Lib.hid hI
        have HA2 := Lib.hid hA
        clear c0 c1
        obtain ⟨c0, c1⟩ := HC1.out
        rw [← hA.cell (by omega) (by omega)] at c0 c1
        have hsz2 := hA.size
        clear hI hA
        by_cases hk : i < k
        · have hk' : (k : Int) > (i : Int) := by omega
          obtain ⟨w4, hs, hI4, hA4⟩ := HE.out.swap _ _ k (k - 1) HI2.out (by omega) (by omega) (by omega)
          rw [show ((k - 1 : Nat) : Int) = (k : Int) - 1 by omega] at hs
          have HI4 := Lib.hid hI4
          have HA4 := Lib.hid hA4
          clear hI4 hA4
          go_wp2_with fail
          go_roundw
          case rel => exact ⟨k - 1, by go_num, by omega, by omega, (by rw [← rsh_step' d k m (by omega) hkm]; exact HI4.out), HA2.out.trans (HA4.out.mono (by omega))⟩
          case measure => simp [Go.RowKit.intOf]; omega
        · obtain rfl : i = k := by omega
          have hk' : ¬ (i : Int) > (i : Int) := by omega
          go_wp2_with fail
          first
            | (go_end0; exact ⟨rfl, ⟨_, HI2.out, HRES.out⟩, HB1.out.trans (HA2.out.mono (by omega))⟩)
            | (refine bodyPost_ret (results_none rfl _ _ _) rfl ?_; exact ⟨rfl, ⟨_, HI2.out, HRES.out⟩, HB1.out.trans (HA2.out.mono (by omega))⟩)
end
end Go.Gj
