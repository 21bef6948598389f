/-
  Floats that are exact: a whole number below 2^53, times a power of two. No program and no memory.
-/
import Ieee.Arith
namespace Go.Gj
open Ieee

theorem shl_eq (a b : Nat) : a <<< b = a * 2 ^ b := Nat.shiftLeft_eq a b

/-- M and E say the number mag * 2 ^ place with a full significand. -/
def Norm (mag : Nat) (place : Int) (M : Nat) (E : Int) : Prop :=
  2 ^ 52 ≤ M ∧ M < 2 ^ 53 ∧ -1074 ≤ E ∧ E ≤ 900 ∧ ((∃ a : Nat, mag * 2 ^ a = M ∧ place - a = E) ∨ (∃ b : Nat, mag = M * 2 ^ b ∧ place + b = E))

theorem log2_of {n k : Nat} (h1 : 2 ^ k ≤ n) (h2 : n < 2 ^ (k + 1)) : n.log2 = k := by
  have hn : n ≠ 0 := by have := Nat.two_pow_pos k; omega
  exact (Nat.log2_eq_iff hn).2 ⟨h1, h2⟩

theorem lp : double.leastPlace = -1074 := by decide
theorem bin : double.binade = 2 ^ 52 := by decide
theorem fbits : double.fractionBits = 52 := rfl
theorem infr : double.infRung = 2047 * 2 ^ 52 := by decide
theorem sgw : double.signWeight = 2 ^ 63 := by decide

theorem sum_lt {e M : Nat} (he : e ≤ 1974) (h2 : M < 2 ^ 53) : e * 2 ^ 52 + M < 2047 * 2 ^ 52 := by
  have h3 : e * 2 ^ 52 ≤ 1974 * 2 ^ 52 := Nat.mul_le_mul_right _ he
  rw [show (2 : Nat) ^ 53 = 2 * 2 ^ 52 by decide] at h2
  generalize (2 : Nat) ^ 52 = B at h3 h2 ⊢
  generalize e * B = x at h3 ⊢
  omega
theorem sum_le {e M : Nat} (he : e ≤ 1974) (h2 : M < 2 ^ 53) : e * 2 ^ 52 + M ≤ 2047 * 2 ^ 52 := Nat.le_of_lt (sum_lt he h2)

theorem nearest_norm (neg : Bool) (mag : Nat) (place : Int) (M : Nat) (E : Int) (h : Norm mag place M E) :
    double.nearest neg mag place = double.word neg ((E + 1074).toNat * 2 ^ 52 + M) := by
  obtain ⟨h1, h2, h3, h4, h⟩ := h
  have hinf : (E + 1074).toNat * 2 ^ 52 + M ≤ 2047 * 2 ^ 52 := by
    have hx : (E + 1074).toNat ≤ 1974 := by omega
    exact sum_le hx h2
  rcases h with ⟨a, ha, hE⟩ | ⟨b, hb, hE⟩
  · have hm : mag ≠ 0 := by rintro rfl; simp at ha; omega
    have ha52 : a ≤ 52 := by
      rcases Nat.lt_or_ge 52 a with hgt | hle
      · have : 2 ^ 53 ≤ 2 ^ a := Nat.pow_le_pow_right (by decide) hgt
        have : 2 ^ a ≤ mag * 2 ^ a := Nat.le_mul_of_pos_left _ (by omega)
        omega
      · exact hle
    have hlog : mag.log2 = 52 - a := by
      refine log2_of ?_ ?_
      · have e : (2 : Nat) ^ 52 = 2 ^ (52 - a) * 2 ^ a := by rw [← Nat.pow_add]; congr 1; omega
        rw [e] at h1
        rw [← ha] at h1
        exact Nat.le_of_mul_le_mul_right h1 (Nat.two_pow_pos a)
      · have e : (2 : Nat) ^ 53 = 2 ^ (52 - a + 1) * 2 ^ a := by rw [← Nat.pow_add]; congr 1; omega
        rw [e, ← ha] at h2
        exact Nat.lt_of_mul_lt_mul_right h2
    unfold Format.nearest
    rw [if_neg hm, lp, fbits, bin, infr]
    have hlast : max (place + ((mag.log2 : Nat) : Int) - ((52 : Nat) : Int)) (-1074) = E := by rw [hlog]; omega
    simp only [hlast]
    have e1 : (place - E).toNat = a := by omega
    have e2 : (E - place).toNat = 0 := by omega
    rw [e1, e2, shl_eq, ha]
    have hc : Toward.even.cut neg M 0 = M := by simp [Toward.cut, Nat.mod_one]
    rw [hc]
    have e3 : (E - -1074).toNat = (E + 1074).toNat := by omega
    rw [e3, Nat.min_eq_left hinf]
  · have hpos : 0 < 2 ^ b := Nat.two_pow_pos b
    have hm : mag ≠ 0 := by rw [hb]; exact Nat.mul_ne_zero (by omega) (by omega)
    have hlog : mag.log2 = 52 + b := by
      refine log2_of ?_ ?_
      · rw [hb, Nat.pow_add]; exact Nat.mul_le_mul_right _ h1
      · rw [hb, show 52 + b + 1 = 53 + b by omega, Nat.pow_add]; exact Nat.mul_lt_mul_of_pos_right h2 hpos
    unfold Format.nearest
    rw [if_neg hm, lp, fbits, bin, infr]
    have hlast : max (place + ((mag.log2 : Nat) : Int) - ((52 : Nat) : Int)) (-1074) = E := by rw [hlog]; omega
    simp only [hlast]
    have e1 : (place - E).toNat = 0 := by omega
    have e2 : (E - place).toNat = b := by omega
    rw [e1, e2, shl_eq, Nat.pow_zero, Nat.mul_one]
    have hmin : min b (mag.log2 + 2) = b := by rw [hlog]; omega
    have hc : Toward.even.cut neg mag b = M := by
      simp only [Toward.cut, hmin, shl_eq, Nat.one_mul]
      have r0 : mag % 2 ^ b = 0 := by rw [hb]; exact Nat.mul_mod_left _ _
      have q0 : mag / 2 ^ b = M := by rw [hb]; exact Nat.mul_div_cancel _ hpos
      rw [r0, q0]
      simp
    rw [hc]
    have e3 : (E - -1074).toNat = (E + 1074).toNat := by omega
    rw [e3, Nat.min_eq_left hinf]

theorem read_norm (neg : Bool) (M : Nat) (E : Int) (h1 : 2 ^ 52 ≤ M) (h2 : M < 2 ^ 53) (h3 : -1074 ≤ E) (h4 : E ≤ 900) :
    double.read (double.word neg ((E + 1074).toNat * 2 ^ 52 + M)) = .number neg M E := by
  obtain ⟨e, he⟩ : ∃ e : Nat, (E + 1074).toNat = e := ⟨_, rfl⟩
  have heE : E = (e : Int) - 1074 := by omega
  have hele : e ≤ 1974 := by omega
  rw [he]
  have hr : e * 2 ^ 52 + M < 2 ^ 63 := Nat.lt_of_le_of_lt (sum_le hele h2) (by decide)
  have hinf : e * 2 ^ 52 + M < 2047 * 2 ^ 52 := sum_lt hele h2
  have hq : (e * 2 ^ 52 + M) / 2 ^ 52 = e + 1 := by
    rw [Nat.add_comm, Nat.add_mul_div_right _ _ (Nat.two_pow_pos 52)]
    have : M / 2 ^ 52 = 1 := by omega
    omega
  have hm : (e * 2 ^ 52 + M) % 2 ^ 52 = M - 2 ^ 52 := by
    rw [Nat.add_comm, Nat.add_mul_mod_self_right]; omega
  have key : ∀ w : Nat, w % 2 ^ 63 = e * 2 ^ 52 + M → double.read w = .number (w / 2 ^ 63 % 2 == 1) M E := by
    intro w hw
    unfold Format.read
    rw [sgw, bin, infr, lp]
    simp only [hw]
    rw [if_neg (Nat.not_lt.2 (Nat.le_trans h1 (Nat.le_add_left _ _))), if_pos hinf, hm, hq, Nat.add_sub_cancel' h1, heE]
    have h4' : ((e + 1 - 1 : Nat) : Int) = e := by simp
    rw [h4', show (-1074 : Int) + e = e - 1074 by omega]
  cases neg
  · rw [show double.word false (e * 2 ^ 52 + M) = e * 2 ^ 52 + M from rfl, key _ (Nat.mod_eq_of_lt hr)]
    have : (e * 2 ^ 52 + M) / 2 ^ 63 = 0 := Nat.div_eq_of_lt hr
    rw [this]; rfl
  · rw [show double.word true (e * 2 ^ 52 + M) = 2 ^ 63 + (e * 2 ^ 52 + M) from by unfold Format.word; rw [sgw]; rfl]
    have hx : (2 ^ 63 + (e * 2 ^ 52 + M)) % 2 ^ 63 = e * 2 ^ 52 + M := by rw [Nat.add_mod_left]; exact Nat.mod_eq_of_lt hr
    rw [key _ hx]
    have : (2 ^ 63 + (e * 2 ^ 52 + M)) / 2 ^ 63 = 1 := by omega
    rw [this]; rfl

theorem read_nearest (neg : Bool) (mag : Nat) (place : Int) (M : Nat) (E : Int) (h : Norm mag place M E) :
    double.read (double.nearest neg mag place) = .number neg M E := by
  rw [nearest_norm neg mag place M E h]
  exact read_norm neg M E h.1 h.2.1 h.2.2.1 h.2.2.2.1

/-- Each number below 2^53 at a place near 0 has such a form. -/
theorem norm_of (mag : Nat) (place : Int) (h0 : 0 < mag) (h : mag < 2 ^ 53) (h1 : -100 ≤ place) (h2 : place ≤ 100) :
    Norm mag place (mag * 2 ^ (52 - mag.log2)) (place - (52 - mag.log2 : Nat)) := by
  have hne : mag ≠ 0 := by omega
  have hl : mag.log2 ≤ 52 := by
    have := (Nat.log2_lt hne (k := 53)).2 h
    omega
  have lo : 2 ^ mag.log2 ≤ mag := Nat.log2_self_le hne
  have hi : mag < 2 ^ (mag.log2 + 1) := Nat.lt_log2_self
  refine ⟨?_, ?_, by omega, by omega, .inl ⟨52 - mag.log2, rfl, rfl⟩⟩
  · have e : (2 : Nat) ^ 52 = 2 ^ mag.log2 * 2 ^ (52 - mag.log2) := by rw [← Nat.pow_add]; congr 1; omega
    rw [e]; exact Nat.mul_le_mul_right _ lo
  · have e : (2 : Nat) ^ 53 = 2 ^ (mag.log2 + 1) * 2 ^ (52 - mag.log2) := by rw [← Nat.pow_add]; congr 1; omega
    rw [e]; exact Nat.mul_lt_mul_of_pos_right hi (Nat.two_pow_pos _)

/-- The float h * 2 ^ p. -/
def fl (h : Int) (p : Int) : Nat := double.nearest (h < 0) h.natAbs p

/-- Two sayings of one number give one word. -/
theorem nearest_same (neg : Bool) (mag mag' : Nat) (place place' : Int) (M : Nat) (E : Int) (h : Norm mag place M E) (h' : Norm mag' place' M E) :
    double.nearest neg mag place = double.nearest neg mag' place' := by
  rw [nearest_norm neg mag place M E h, nearest_norm neg mag' place' M E h']

theorem natAbs_pos {h : Int} (hh : h ≠ 0) : 0 < h.natAbs := by omega

theorem read_fl {h p : Int} (h0 : h ≠ 0) (hb : h.natAbs < 2 ^ 53) (h1 : -100 ≤ p) (h2 : p ≤ 100) :
    double.read (fl h p) = .number (h < 0) (h.natAbs * 2 ^ (52 - h.natAbs.log2)) (p - (52 - h.natAbs.log2 : Nat)) :=
  read_nearest _ _ _ _ _ (norm_of _ _ (by omega) hb h1 h2)

theorem norm_up {mag : Nat} {place : Int} {M : Nat} {E : Int} (h : Norm mag place M E) : Norm M E M E :=
  ⟨h.1, h.2.1, h.2.2.1, h.2.2.2.1, .inr ⟨0, by simp, by simp⟩⟩

/-- The word 2.0. -/
theorem read_two : double.read 4611686018427387904 = .number false (2 ^ 52) (-51) := by decide +kernel

/-- h / 2, a float. -/
theorem div_two {h : Int} (h0 : h ≠ 0) (hb : h.natAbs < 2 ^ 53) : double.div (fl h 0) 4611686018427387904 = some (fl h (-1)) := by
  unfold Format.div
  rw [read_fl h0 hb (by decide) (by decide), read_two]
  generalize hL : 52 - h.natAbs.log2 = L
  have hn := norm_of h.natAbs 0 (by omega) hb (by decide) (by decide)
  rw [hL] at hn
  have hLle : L ≤ 52 := by omega
  generalize hM : h.natAbs * 2 ^ L = M at hn ⊢
  have hML : M.log2 = 52 := log2_of hn.1 hn.2.1
  have h2L : (2 ^ 52 : Nat).log2 = 52 := log2_of (Nat.le_refl _) (by decide)
  simp only [Datum.quotient]
  rw [if_neg (by decide), fbits, hML, h2L]
  simp only [shl_eq]
  have q : M * 2 ^ (52 + 2 + 52 - 52) / 2 ^ 52 = M * 4 := by
    rw [show 52 + 2 + 52 - 52 = 2 + 52 by decide, Nat.pow_add, ← Nat.mul_assoc, Nat.mul_div_cancel _ (Nat.two_pow_pos 52)]
  have r : M * 2 ^ (52 + 2 + 52 - 52) % 2 ^ 52 = 0 := by
    rw [show 52 + 2 + 52 - 52 = 2 + 52 by decide, Nat.pow_add, ← Nat.mul_assoc]; exact Nat.mul_mod_left _ _
  rw [q, r]
  simp only [bne_self_eq_false, Bool.toNat_false, Nat.add_zero, Option.map_some, Format.write, Bool.xor_false]
  unfold fl
  refine congrArg some (nearest_same _ _ _ _ _ M (-1 - L) ?_ ?_)
  · refine ⟨hn.1, hn.2.1, by omega, by omega, .inr ⟨3, by omega, ?_⟩⟩
    have : ((52 + 2 + 52 - 52 : Nat) : Int) = 54 := by decide
    omega
  · refine ⟨hn.1, hn.2.1, by omega, by omega, .inl ⟨L, hM, rfl⟩⟩

/-- Twice it. -/
theorem mul_two {h : Int} (h0 : h ≠ 0) (hb : h.natAbs < 2 ^ 53) : double.mul 4611686018427387904 (fl h (-1)) = some (fl h 0) := by
  unfold Format.mul
  rw [read_fl h0 hb (by decide) (by decide), read_two]
  generalize hL : 52 - h.natAbs.log2 = L
  have hn := norm_of h.natAbs 0 (by omega) hb (by decide) (by decide)
  rw [hL] at hn
  have hLle : L ≤ 52 := by omega
  generalize hM : h.natAbs * 2 ^ L = M at hn ⊢
  simp only [Datum.product, Option.map_some, Format.write, Bool.false_xor]
  unfold fl
  refine congrArg some (nearest_same _ _ _ _ _ M (0 - L) ?_ ?_)
  · refine ⟨hn.1, hn.2.1, by omega, by omega, .inr ⟨52, by rw [Nat.mul_comm], by omega⟩⟩
  · refine ⟨hn.1, hn.2.1, by omega, by omega, .inl ⟨L, hM, rfl⟩⟩

/-- A whole number, cut towards zero. -/
theorem trunc_fl {h : Int} (h0 : h ≠ 0) (hb : h.natAbs < 2 ^ 53) : (double.read (fl h 0)).integral .zero = .number (h < 0) h.natAbs 0 := by
  rw [read_fl h0 hb (by decide) (by decide)]
  generalize hL : 52 - h.natAbs.log2 = L
  have hLle : L ≤ 52 := by omega
  simp only [Datum.integral]
  have e1 : (0 - (L : Int)).toNat = 0 := by omega
  have e2 : (-(0 - (L : Int))).toNat = L := by omega
  rw [e1, e2, shl_eq, Nat.pow_zero, Nat.mul_one]
  have hlog : L ≤ (h.natAbs * 2 ^ L).log2 + 2 := by
    have hn := norm_of h.natAbs 0 (by omega) hb (by decide) (by decide)
    rw [hL] at hn
    rw [log2_of hn.1 hn.2.1]; omega
  simp only [Toward.cut, Nat.min_eq_left hlog, shl_eq, Nat.one_mul]
  rw [Nat.mul_div_cancel _ (Nat.two_pow_pos L)]
  simp

theorem write_trunc {h : Int} (h0 : h ≠ 0) (hb : h.natAbs < 2 ^ 53) : double.write ((double.read (fl h 0)).integral .zero) = fl h 0 := by
  rw [trunc_fl h0 hb]; rfl

theorem toInt_fl {h : Int} (h0 : h ≠ 0) (hb : h.natAbs < 2 ^ 53) : (double.read (fl h 0)).toInt .zero = some h := by
  unfold Datum.toInt
  rw [trunc_fl h0 hb]
  simp only [signed, shl_eq, Nat.pow_zero, Nat.mul_one]
  congr 1
  by_cases hneg : h < 0
  · simp [hneg]; omega
  · simp [hneg]; omega

theorem signed_eq (neg : Bool) (m up : Nat) : signed neg m up = (if neg then -1 else 1) * ((m : Int) * 2 ^ up) := by
  unfold signed
  rw [shl_eq]
  cases neg <;> simp

/-- A float against itself. -/
theorem order_self {h : Int} (h0 : h ≠ 0) (hb : h.natAbs < 2 ^ 53) : double.order (fl h 0) (fl h 0) = some .eq := by
  unfold Format.order
  rw [read_fl h0 hb (by decide) (by decide)]
  simp [Datum.order]

#print axioms order_self
#print axioms div_two
#print axioms mul_two
end Go.Gj

/-
  Whole numbers below 2^53, as floats, lie within the range that impl.half lets by.
-/
namespace Go.Gj
open Ieee

theorem cmp_lt {a b : Int} (h : a < b) : compare a b = .lt := by
  show compareOfLessAndEq a b = .lt
  unfold compareOfLessAndEq; rw [if_pos h]
theorem cmp_gt {a b : Int} (h : b < a) : compare a b = .gt := by
  show compareOfLessAndEq a b = .gt
  unfold compareOfLessAndEq; rw [if_neg (by omega), if_neg (by omega)]

theorem read_hi : double.read 4886405595696988160 = .number false (2 ^ 52) 10 := by decide +kernel
theorem read_lo : double.read 14109777632551763968 = .number true (2 ^ 52) 10 := by decide +kernel

theorem order_hi {h : Int} (h0 : h ≠ 0) (hb : h.natAbs < 2 ^ 53) : double.order (fl h 0) 4886405595696988160 = some .lt := by
  unfold Format.order
  rw [read_fl h0 hb (by decide) (by decide), read_hi]
  generalize hL : 52 - h.natAbs.log2 = L
  have hm : min (0 - (L : Int)) 10 = -(L : Int) := by omega
  simp only [Datum.order, hm, signed_eq]
  have e1 : (0 - (L : Int) - -(L : Int)).toNat = 0 := by omega
  have e2 : (10 - -(L : Int)).toNat = 10 + L := by omega
  rw [e1, e2, cmp_lt]
  have hp : (0 : Int) < 2 ^ L := Int.pow_pos (by decide)
  have h1 : (h.natAbs : Int) < 2 ^ 53 := by have := hb; omega
  have e3 : ((h.natAbs * 2 ^ L : Nat) : Int) = (h.natAbs : Int) * 2 ^ L := by simp
  rw [e3, Int.pow_zero, Int.mul_one]
  have e4 : (2 : Int) ^ (10 + L) = 2 ^ 10 * 2 ^ L := Int.pow_add ..
  have e5 : ((2 ^ 52 : Nat) : Int) = 2 ^ 52 := by decide
  rw [e4, e5]
  have h2 : (h.natAbs : Int) * 2 ^ L < 2 ^ 53 * 2 ^ L := Int.mul_lt_mul_of_pos_right h1 hp
  have h3 : (0 : Int) ≤ (h.natAbs : Int) * 2 ^ L := Int.mul_nonneg (by omega) (by omega)
  generalize (h.natAbs : Int) * 2 ^ L = A at h2 h3 ⊢
  generalize (2 : Int) ^ L = B at *
  by_cases hn : h < 0 <;> simp [hn] <;> omega

theorem order_lo {h : Int} (h0 : h ≠ 0) (hb : h.natAbs < 2 ^ 53) : double.order (fl h 0) 14109777632551763968 = some .gt := by
  unfold Format.order
  rw [read_fl h0 hb (by decide) (by decide), read_lo]
  generalize hL : 52 - h.natAbs.log2 = L
  have hm : min (0 - (L : Int)) 10 = -(L : Int) := by omega
  simp only [Datum.order, hm, signed_eq]
  have e1 : (0 - (L : Int) - -(L : Int)).toNat = 0 := by omega
  have e2 : (10 - -(L : Int)).toNat = 10 + L := by omega
  rw [e1, e2, cmp_gt]
  have hp : (0 : Int) < 2 ^ L := Int.pow_pos (by decide)
  have h1 : (h.natAbs : Int) < 2 ^ 53 := by have := hb; omega
  have e3 : ((h.natAbs * 2 ^ L : Nat) : Int) = (h.natAbs : Int) * 2 ^ L := by simp
  rw [e3, Int.pow_zero, Int.mul_one]
  have e4 : (2 : Int) ^ (10 + L) = 2 ^ 10 * 2 ^ L := Int.pow_add ..
  have e5 : ((2 ^ 52 : Nat) : Int) = 2 ^ 52 := by decide
  rw [e4, e5]
  have h2 : (h.natAbs : Int) * 2 ^ L < 2 ^ 53 * 2 ^ L := Int.mul_lt_mul_of_pos_right h1 hp
  have h3 : (0 : Int) ≤ (h.natAbs : Int) * 2 ^ L := Int.mul_nonneg (by omega) (by omega)
  generalize (h.natAbs : Int) * 2 ^ L = A at h2 h3 ⊢
  generalize (2 : Int) ^ L = B at *
  by_cases hn : h < 0 <;> simp [hn] <;> omega
#print axioms order_lo
end Go.Gj
