/-
  Whole numbers below 2^53, as floats, lie within the range that impl.half lets by.
-/
import Derived.Test.YtnlndpgbhmkanaaGreatDoorPlF
namespace Go.Gj
open Ieee

theorem cmp_lt {a b : Int} (h : a < b) : compare a b = .lt := by
  show compareOfLessAndEq a b = .lt
  unfold compareOfLessAndEq; rw [if_pos h]
theorem cmp_gt {a b : Int} (h : b < a) : compare a b = .gt := by
  show compareOfLessAndEq a b = .gt
  unfold compareOfLessAndEq; rw [if_neg (by omega), if_neg (by omega)]

theorem read_hi : double.read 4886405595696988160 = .number false (2 ^ 52) 10 := by decide +kernel
theorem read_lo : double.read 14109777632551763968 = .number true (2 ^ 52) 10 := by decide +kernel

theorem order_hi {h : Int} (h0 : h ≠ 0) (hb : h.natAbs < 2 ^ 53) : double.order (fl h 0) 4886405595696988160 = some .lt := by
  unfold Format.order
  rw [read_fl h0 hb (by decide) (by decide), read_hi]
  generalize hL : 52 - h.natAbs.log2 = L
  have hm : min (0 - (L : Int)) 10 = -(L : Int) := by omega
  simp only [Datum.order, hm, signed_eq]
  have e1 : (0 - (L : Int) - -(L : Int)).toNat = 0 := by omega
  have e2 : (10 - -(L : Int)).toNat = 10 + L := by omega
  rw [e1, e2, cmp_lt]
  have hp : (0 : Int) < 2 ^ L := Int.pow_pos (by decide)
  have h1 : (h.natAbs : Int) < 2 ^ 53 := by have := hb; omega
  have e3 : ((h.natAbs * 2 ^ L : Nat) : Int) = (h.natAbs : Int) * 2 ^ L := by simp
  rw [e3, Int.pow_zero, Int.mul_one]
  have e4 : (2 : Int) ^ (10 + L) = 2 ^ 10 * 2 ^ L := Int.pow_add ..
  have e5 : ((2 ^ 52 : Nat) : Int) = 2 ^ 52 := by decide
  rw [e4, e5]
  have h2 : (h.natAbs : Int) * 2 ^ L < 2 ^ 53 * 2 ^ L := Int.mul_lt_mul_of_pos_right h1 hp
  have h3 : (0 : Int) ≤ (h.natAbs : Int) * 2 ^ L := Int.mul_nonneg (by omega) (by omega)
  generalize (h.natAbs : Int) * 2 ^ L = A at h2 h3 ⊢
  generalize (2 : Int) ^ L = B at *
  by_cases hn : h < 0 <;> simp [hn] <;> omega

theorem order_lo {h : Int} (h0 : h ≠ 0) (hb : h.natAbs < 2 ^ 53) : double.order (fl h 0) 14109777632551763968 = some .gt := by
  unfold Format.order
  rw [read_fl h0 hb (by decide) (by decide), read_lo]
  generalize hL : 52 - h.natAbs.log2 = L
  have hm : min (0 - (L : Int)) 10 = -(L : Int) := by omega
  simp only [Datum.order, hm, signed_eq]
  have e1 : (0 - (L : Int) - -(L : Int)).toNat = 0 := by omega
  have e2 : (10 - -(L : Int)).toNat = 10 + L := by omega
  rw [e1, e2, cmp_gt]
  have hp : (0 : Int) < 2 ^ L := Int.pow_pos (by decide)
  have h1 : (h.natAbs : Int) < 2 ^ 53 := by have := hb; omega
  have e3 : ((h.natAbs * 2 ^ L : Nat) : Int) = (h.natAbs : Int) * 2 ^ L := by simp
  rw [e3, Int.pow_zero, Int.mul_one]
  have e4 : (2 : Int) ^ (10 + L) = 2 ^ 10 * 2 ^ L := Int.pow_add ..
  have e5 : ((2 ^ 52 : Nat) : Int) = 2 ^ 52 := by decide
  rw [e4, e5]
  have h2 : (h.natAbs : Int) * 2 ^ L < 2 ^ 53 * 2 ^ L := Int.mul_lt_mul_of_pos_right h1 hp
  have h3 : (0 : Int) ≤ (h.natAbs : Int) * 2 ^ L := Int.mul_nonneg (by omega) (by omega)
  generalize (h.natAbs : Int) * 2 ^ L = A at h2 h3 ⊢
  generalize (2 : Int) ^ L = B at *
  by_cases hn : h < 0 <;> simp [hn] <;> omega
#print axioms order_lo
end Go.Gj
