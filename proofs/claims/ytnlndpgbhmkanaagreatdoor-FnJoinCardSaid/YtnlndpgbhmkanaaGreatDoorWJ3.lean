/-
  The digits of an integer, as the law writes them; spec.Str, spec.Whole.
-/
import Derived.Test.YtnlndpgbhmkanaaGreatDoorWAns
import Derived.Lib.ItoaMem
import Derived.Lib.ItoaLen
import Derived.Laws.IdiomStrings
import Derived.Shelf.Strings.Builder1
namespace Go.Gj
set_option linter.unusedSimpArgs false
set_option linter.unusedVariables false
set_option linter.unnecessarySimpa false
open Go Go.RowKit Go.Proofs

def bytesOf (l : List UInt8) : ByteArray := ⟨l.toArray⟩
def decB (n : Nat) : ByteArray := bytesOf (Lib.decDigits n)
def dgc (d : Nat) : ByteArray := ⟨#[UInt8.ofNat (48 + d)]⟩
theorem dgc_size (d : Nat) : (dgc d).size = 1 := rfl
theorem decB_small {n : Nat} (h : n < 10) : decB n = dgc n := by unfold decB bytesOf; rw [Lib.decDigits_one h]; rfl
theorem ba_app (a b : List UInt8) : (bytesOf a) ++ (bytesOf b) = bytesOf (a ++ b) := by
  unfold bytesOf
  apply ByteArray.ext
  simp
theorem decB_big {n : Nat} (h : ¬ n < 10) : decB n = decB (n / 10) ++ dgc (n % 10) := by
  have e : dgc (n % 10) = bytesOf [UInt8.ofNat (48 + n % 10)] := rfl
  rw [e]; unfold decB; rw [ba_app, Lib.decDigits, dif_neg h]

theorem enc_one : ∀ d : Fin 10, Utf8.encode (48 + (d.val : Int)) = ⟨#[UInt8.ofNat (48 + d.val)]⟩ := by decide +kernel
theorem enc_dig {d : Nat} (h : d < 10) : Utf8.encode (48 + (d : Int)) = dgc d := enc_one ⟨d, h⟩
theorem decB_size {n : Nat} (h : n < 4611686018427387904) : (decB n).size ≤ 20 := by
  have := Lib.nDigits_le20 n (by omega)
  unfold decB bytesOf
  rw [ByteArray.size, List.size_toArray, Lib.decDigits_length]
  exact this
theorem size_app (a b : ByteArray) : (a ++ b).size = a.size + b.size := ByteArray.size_append

set_option maxHeartbeats 1000000 in
set_option maxRecDepth 100000 in
theorem digits_ok (N : Nat) (hN : N < 4611686018427387904) (w : World) :
    Calls Tryz.prog 70 #[.int .i64 N] w fun e w' => e = .returned (.string (decB N)) ∧ w' = w := by
  go_enter Tryz.func70, Tryz.ntmps70
  go_wp2_with fail
  go_loopw [0, 3] (fun a b wr => ∃ (m : Nat) (s : ByteArray), a = .int .i64 m ∧ b = .string s ∧ m < 4611686018427387904 ∧ decB m ++ s = decB N ∧ wr = w) (fun a _ _ => (RowKit.intOf a).toNat)
  case atStart =>
    exact ⟨N, ⟨#[]⟩, rfl, rfl, hN, ByteArray.append_empty, rfl⟩
  case round =>
    obtain ⟨m, s, rfl, rfl, hm, he, rfl⟩ := hrel
    have hs : s.size ≤ 20 := by
      have h1 := decB_size hN
      rw [← he, size_app] at h1
      omega
    have HE := Lib.hid he
    clear he
    by_cases h10 : m < 10
    · have hc : decide ((10 : Int) ≤ (m : Int)) = false := by simp; omega
      have he1 := enc_dig h10
      have hg0 := dgc_size m
      have HD := Lib.hid (decB_small h10)
      generalize dgc m = g at he1 hg0 HD
      have hz : ¬ (9223372036854775807 < g.size + s.size) := by omega
      clear hg0
      go_wp2_with fail
      refine bodyPost_ret (v := .string (decB N)) (by have e := HE.out; rw [HD.out] at e; simp [results, Tryz.results70, go_sem, he1, e]) rfl ⟨rfl, rfl⟩
    · have hc : decide ((10 : Int) ≤ (m : Int)) = true := by simp; omega
      have he1 : Utf8.encode (48 + (m : Int) % 10) = dgc (m % 10) := by rw [← enc_dig (Nat.mod_lt m (by decide))]; rfl
      have hg0 := dgc_size (m % 10)
      have HD := Lib.hid (decB_big h10)
      generalize dgc (m % 10) = g at he1 hg0 HD
      have hz : ¬ (9223372036854775807 < g.size + s.size) := by omega
      clear hg0
      go_wp2_with fail
      refine ⟨⟨m / 10, _, rfl, rfl, by omega, ?_, trivial⟩, ?_⟩
      · first | rw [he1, ← HE.out, HD.out, ByteArray.append_assoc] | rw [← HE.out, HD.out, ByteArray.append_assoc]
      · simp only [RowKit.intOf]; omega

/-- Any integer's digits, as a text. -/
def itoaB (n : Int) : ByteArray := bytesOf (Lib.itoa n)
theorem itoaB_nonneg (n : Nat) : itoaB n = decB n := by unfold itoaB decB; rw [Lib.itoa_nonneg]
theorem itoaB_neg (n : Nat) (h : 1 ≤ n) : itoaB (-(n : Int)) = ⟨#[45]⟩ ++ decB n := by
  have e : (⟨#[45]⟩ : ByteArray) = bytesOf [45] := rfl
  unfold itoaB decB; rw [Lib.itoa_neg n h, e, ba_app]; rfl

set_option maxHeartbeats 1000000 in
set_option maxRecDepth 100000 in
theorem Digits_ok (n : Int) (h1 : -2305843009213693952 ≤ n) (h2 : n ≤ 2305843009213693952) (w : World) :
    Calls Tryz.prog 42 #[.int .i64 n] w fun e w' => e = .returned (.string (itoaB n)) ∧ w' = w := by
  by_cases hn : n < 0
  · obtain ⟨m, rfl⟩ : ∃ m : Nat, n = -(m : Int) := ⟨n.natAbs, by omega⟩
    have HC := Lib.hid (digits_ok m (by omega) w)
    have hz : ¬ (9223372036854775807 < (⟨#[45]⟩ : ByteArray).size + (decB m).size) := by have := decB_size (n := m) (by omega); show ¬ (9223372036854775807 < 1 + _); omega
    have hi : itoaB (-(m : Int)) = ⟨#[45]⟩ ++ decB m := itoaB_neg m (by omega)
    have hd : decide (-(m : Int) < 0) = true := by simp; omega
    go_enter Tryz.func42, Tryz.ntmps42
    go_wp2_with (go_at_call 70; refine HC.out.mono ?_; rintro e w' ⟨rfl, rfl⟩)
    exact bodyPost_ret (v := .string (itoaB (-(m : Int)))) (by simp [results, Tryz.results42, go_sem, hi]) rfl ⟨rfl, rfl⟩
  · obtain ⟨m, rfl⟩ : ∃ m : Nat, n = (m : Int) := ⟨n.toNat, by omega⟩
    have HC := Lib.hid (digits_ok m (by omega) w)
    have hd : decide ((m : Int) < 0) = false := by simp
    go_enter Tryz.func42, Tryz.ntmps42
    go_wp2_with (go_at_call 70; refine HC.out.mono ?_; rintro e w' ⟨rfl, rfl⟩)
    exact bodyPost_ret (v := .string (itoaB m)) (by simp [results, Tryz.results42, go_sem, itoaB_nonneg]) rfl ⟨rfl, rfl⟩
end Go.Gj

/-
  lightstrconv.FormatUint, FormatInt at base 10.
-/
namespace Go.Gj
set_option linter.unusedSimpArgs false
set_option linter.unusedVariables false
set_option linter.unnecessarySimpa false
open Go Go.RowKit Go.Proofs

/-- The buffer: its cells, and what is written from place i on. -/
def FU (w : World) (B i : Nat) (s : List UInt8) : Prop := (∀ j, j < 64 → ∃ v, w.cell? ⟨B, j, none⟩ = some v) ∧ (∀ j, w.frozen? ⟨B, j, none⟩ = false) ∧ i + s.length = 64 ∧ ∀ j (hj : j < s.length), w.cell? ⟨B, i + j, none⟩ = some (.int .u8 (s[j].toNat : Int))

theorem FU.put {w : World} {B k d : Nat} {s : List UInt8} (h : FU w B (k + 1) s) (hd : d < 10) : FU (w.setCell ⟨B, k, none⟩ (.int .u8 (48 + (d : Int)))) B k (UInt8.ofNat (48 + d) :: s) := by
  obtain ⟨h1, h2, h3, h4⟩ := h
  have hk : k < 64 := by omega
  obtain ⟨v, hv⟩ := h1 k hk
  have hsame : (w.setCell ⟨B, k, none⟩ (.int .u8 (48 + (d : Int)))).cell? ⟨B, k, none⟩ = some (.int .u8 (48 + (d : Int))) := World.cell?_setCell_same' _ _ _ (by rw [hv]; rfl)
  have hoth : ∀ j, j ≠ k → (w.setCell ⟨B, k, none⟩ (.int .u8 (48 + (d : Int)))).cell? ⟨B, j, none⟩ = w.cell? ⟨B, j, none⟩ := fun j hj => World.cell?_setCell_other _ _ _ _ (by intro e; simp only [Addr.mk.injEq, true_and, and_true] at e; omega)
  refine ⟨fun j hj => ?_, fun j => by rw [World.frozen?_setCell]; exact h2 j, by simp only [List.length_cons]; omega, fun j hj => ?_⟩
  · by_cases e : j = k
    · subst e; exact ⟨_, hsame⟩
    · rw [hoth j e]; exact h1 j hj
  · cases j with
    | zero =>
      rw [Nat.add_zero, hsame]
      simp only [List.getElem_cons_zero]
      rw [UInt8.toNat_ofNat_of_lt' (by show 48 + d < 256; omega)]
      rfl
    | succ j =>
      rw [hoth _ (by omega)]
      simp only [List.getElem_cons_succ]
      rw [show k + (j + 1) = k + 1 + j by omega]
      exact h4 j (by simpa using hj)

theorem dec_step (m : Nat) (s D : List UInt8) (h : Lib.decDigits m ++ s = D) : (m / 10 = 0 → UInt8.ofNat (48 + m % 10) :: s = D) ∧ (m / 10 ≠ 0 → Lib.decDigits (m / 10) ++ UInt8.ofNat (48 + m % 10) :: s = D) := by
  constructor
  · intro h0
    have hm : m < 10 := by omega
    rw [← h, Lib.decDigits_one hm, Nat.mod_eq_of_lt hm]; rfl
  · intro h0
    rw [← h]
    conv => rhs; rw [Lib.decDigits, dif_neg (by omega)]
    simp

theorem fu_slice {w : World} {B i : Nat} {s : List UInt8} (h : FU w B i s) (hi : i < 64) : (Instr.sliceAt 248 (.pointer (some ⟨B, 0, none⟩)) (some (.int .i64 (i : Int))) none none).run Tryz.prog w = .ok (.slice (some ⟨B, i, none⟩) s.length s.length) w := by
  have hl : Tryz.prog.arrayLen 248 = 64 := by kernel_rfl
  rw [run_sliceAt_array_l (P := Tryz.prog) w 248 ⟨B, 0, none⟩ (by kernel_rfl) .i64 (i : Int) (by omega) (by rw [hl]; omega), hl]
  have hs : (sizeOf (Tryz.prog.elem 248)).run Tryz.prog w = .ok 1 w := by kernel_rfl
  rw [hs]
  simp only [Result.andThen, slicedAt, Int.toNat_natCast]
  rw [if_neg (by omega)]
  have e : 64 - i = s.length := by have := h.2.2.1; omega
  rw [e, Nat.mul_one, Lib.add_plain, Nat.zero_add]

theorem fu_conv {w : World} {B i : Nat} {s : List UInt8} (h : FU w B i s) : (Go.convert 239 9 (.slice (some ⟨B, i, none⟩) s.length s.length)).run Tryz.prog w = .ok (.string ⟨s.toArray⟩) w :=
  run_convert_bytes_back w 239 9 5 ⟨B, i, none⟩ s.length s Tryz.underlying239 Tryz.underlying5 Tryz.underlying9 (fun j hj => by rw [Lib.add_plain]; exact h.2.2.2 j hj)

def fum (a b : Value) : Nat := (RowKit.intOf a).toNat + (if RowKit.intOf b = 64 then 1 else 0)
theorem fum_eq (m i : Nat) : fum (.int .u64 (m : Int)) (.int .i64 (i : Int)) = m + if i = 64 then 1 else 0 := by
  by_cases h : i = 64
  · rw [if_pos h]; unfold fum; rw [if_pos (show RowKit.intOf (Value.int .i64 (i : Int)) = 64 by subst h; rfl)]; rfl
  · rw [if_neg h]; unfold fum; rw [if_neg (show ¬ RowKit.intOf (Value.int .i64 (i : Int)) = 64 by show ¬ (i : Int) = 64; omega)]; rfl

theorem zeros64 (j : Nat) (h : j < 64) : (#[Value.int .u8 0, Value.int .u8 0, Value.int .u8 0, Value.int .u8 0, Value.int .u8 0, Value.int .u8 0, Value.int .u8 0, Value.int .u8 0, Value.int .u8 0, Value.int .u8 0, Value.int .u8 0, Value.int .u8 0, Value.int .u8 0, Value.int .u8 0, Value.int .u8 0, Value.int .u8 0, Value.int .u8 0, Value.int .u8 0, Value.int .u8 0, Value.int .u8 0, Value.int .u8 0, Value.int .u8 0, Value.int .u8 0, Value.int .u8 0, Value.int .u8 0, Value.int .u8 0, Value.int .u8 0, Value.int .u8 0, Value.int .u8 0, Value.int .u8 0, Value.int .u8 0, Value.int .u8 0, Value.int .u8 0, Value.int .u8 0, Value.int .u8 0, Value.int .u8 0, Value.int .u8 0, Value.int .u8 0, Value.int .u8 0, Value.int .u8 0, Value.int .u8 0, Value.int .u8 0, Value.int .u8 0, Value.int .u8 0, Value.int .u8 0, Value.int .u8 0, Value.int .u8 0, Value.int .u8 0, Value.int .u8 0, Value.int .u8 0, Value.int .u8 0, Value.int .u8 0, Value.int .u8 0, Value.int .u8 0, Value.int .u8 0, Value.int .u8 0, Value.int .u8 0, Value.int .u8 0, Value.int .u8 0, Value.int .u8 0, Value.int .u8 0, Value.int .u8 0, Value.int .u8 0, Value.int .u8 0] : Array Value)[j]? = some (.int .u8 0) := by
  have e : ∀ j : Fin 64, (Array.replicate 64 (Value.int .u8 0))[j.val]? = some (.int .u8 0) := fun j => by rw [Array.getElem?_replicate, if_pos j.isLt]
  exact e ⟨j, h⟩

theorem idx_fin (w : World) : ∀ d : Fin 10, (Instr.index 9 (.string ⟨#[48, 49, 50, 51, 52, 53, 54, 55, 56, 57, 97, 98, 99, 100, 101, 102, 103, 104, 105, 106, 107, 108, 109, 110, 111, 112, 113, 114, 115, 116, 117, 118, 119, 120, 121, 122]⟩) (.int .u64 (d.val : Int))).run Tryz.prog w = .ok (.int .u8 (48 + (d.val : Int))) w
  | ⟨0, _⟩ => by kernel_rfl
  | ⟨1, _⟩ => by kernel_rfl
  | ⟨2, _⟩ => by kernel_rfl
  | ⟨3, _⟩ => by kernel_rfl
  | ⟨4, _⟩ => by kernel_rfl
  | ⟨5, _⟩ => by kernel_rfl
  | ⟨6, _⟩ => by kernel_rfl
  | ⟨7, _⟩ => by kernel_rfl
  | ⟨8, _⟩ => by kernel_rfl
  | ⟨9, _⟩ => by kernel_rfl
theorem idx_dig (m : Nat) (w : World) : (Instr.index 9 (.string ⟨#[48, 49, 50, 51, 52, 53, 54, 55, 56, 57, 97, 98, 99, 100, 101, 102, 103, 104, 105, 106, 107, 108, 109, 110, 111, 112, 113, 114, 115, 116, 117, 118, 119, 120, 121, 122]⟩) (.int .u64 ((m : Int) % 10))).run Tryz.prog w = .ok (.int .u8 (48 + (m : Int) % 10)) w :=
  idx_fin w ⟨m % 10, Nat.mod_lt m (by decide)⟩

set_option maxHeartbeats 1000000 in
set_option maxRecDepth 100000 in
theorem FormatUint_ok (N : Nat) (hN : N < 4611686018427387904) (w : World) :
    Calls Tryz.prog 319 #[.int .u64 N, .int .i64 10] w fun e w' => e = .returned (.string (decB N)) ∧ Below w.heap.size w w' := by
  go_enter Tryz.func319, Tryz.ntmps319
  go_wp2_with fail
  go_loopw [0, 6] (fun a b wr => ∃ (m i : Nat) (s : List UInt8), a = .int .u64 m ∧ b = .int .i64 i ∧ m < 4611686018427387904 ∧ FU wr w.heap.size i s ∧ ((i = 64 ∧ m = N) ∨ (i < 64 ∧ (m = 0 → s = Lib.decDigits N) ∧ (m ≠ 0 → Lib.decDigits m ++ s = Lib.decDigits N))) ∧ Below w.heap.size w wr) (fun a b _ => fum a b)
  case atStart =>
    refine ⟨N, 64, [], rfl, rfl, hN, ⟨fun j hj => ?_, fun j => World.frozen?_alloc_new _ _ _ _, rfl, fun j hj => by cases hj⟩, .inl ⟨rfl, rfl⟩, below1 _ _⟩
    refine ⟨.int .u8 0, ?_⟩
    rw [World.cell?_alloc_new]
    exact zeros64 j hj
  case round =>
    obtain ⟨m, i, s, rfl, rfl, hm, hfu, hmi, hb⟩ := hrel
    have hidx : ∀ w, (Instr.index 9 (.string ⟨#[48, 49, 50, 51, 52, 53, 54, 55, 56, 57, 97, 98, 99, 100, 101, 102, 103, 104, 105, 106, 107, 108, 109, 110, 111, 112, 113, 114, 115, 116, 117, 118, 119, 120, 121, 122]⟩) (.int .u64 ((m : Int) % 10))).run Tryz.prog w = .ok (.int .u8 (48 + (m : Int) % 10)) w := fun w => idx_dig m w
    have HFU := Lib.hid hfu
    have HB := Lib.hid hb
    rcases hmi with ⟨rfl, rfl⟩ | ⟨hlt, hz, hnz⟩
    · obtain rfl : s = [] := List.length_eq_zero_iff.1 (by have := hfu.2.2.1; omega)
      obtain ⟨v, hv⟩ := hfu.1 63 (by decide)
      have hf := hfu.2.1 63
      have HST := Lib.hid (dec_step m [] _ (List.append_nil (Lib.decDigits m)))
      clear hfu hb
      go_wp2_with fail
      refine ⟨⟨m / 10, 63, [UInt8.ofNat (48 + m % 10)], rfl, rfl, by omega, HFU.out.put (k := 63) (d := m % 10) (Nat.mod_lt m (by decide)), .inr ⟨by decide, HST.out.1, HST.out.2⟩, HB.out.setCell (p := ⟨w.heap.size, 63, none⟩) (Nat.le_refl _) _⟩, ?_⟩
      show fum (.int .u64 ((m / 10 : Nat) : Int)) (.int .i64 ((63 : Nat) : Int)) < fum (.int .u64 (m : Int)) (.int .i64 ((64 : Nat) : Int))
      rw [fum_eq, fum_eq, if_neg (by decide), if_pos rfl]
      omega
    · by_cases hm0 : m = 0
      · subst hm0
        have hzs := hz rfl
        subst hzs
        have h64 : ((i : Int) == 64) = false := by simp; omega
        have hsl := fu_slice hfu hlt
        have hcv := fu_conv hfu
        clear hfu hb hz hnz
        go_wp2_with fail
        exact bodyPost_ret (v := .string (decB N)) (by simp [results, Tryz.results319, go_sem, decB, bytesOf]) rfl ⟨rfl, HB.out⟩
      · have h64 : ((i : Int) == 64) = false := by simp; omega
        have h0 : decide ((0 : Int) < (m : Int)) = true := by simp; omega
        have HST := Lib.hid (dec_step m s _ (hnz hm0))
        have hl : s.length ≤ 19 := by
          have h1 := congrArg List.length (hnz hm0)
          rw [List.length_append, Lib.decDigits_length, Lib.decDigits_length] at h1
          have h2 := Lib.nDigits_le20 N (by omega)
          have h3 := Lib.nDigits_pos m
          omega
        obtain ⟨k, rfl⟩ : ∃ k, i = k + 1 := ⟨i - 1, by have := hfu.2.2.1; omega⟩
        obtain ⟨v, hv⟩ := hfu.1 k (by omega)
        have hf := hfu.2.1 k
        have hk : (0 : Int) ≤ (k : Int) ∧ (k : Int) < 64 := ⟨by omega, by omega⟩
        clear hfu hb hz hnz
        go_wp2_with fail
        refine ⟨⟨m / 10, k, UInt8.ofNat (48 + m % 10) :: s, rfl, rfl, by omega, HFU.out.put (d := m % 10) (Nat.mod_lt m (by decide)), .inr ⟨by omega, HST.out.1, HST.out.2⟩, HB.out.setCell (p := ⟨w.heap.size, k, none⟩) (Nat.le_refl _) _⟩, ?_⟩
        show fum (.int .u64 ((m / 10 : Nat) : Int)) (.int .i64 (k : Int)) < fum (.int .u64 (m : Int)) (.int .i64 ((k + 1 : Nat) : Int))
        rw [fum_eq, fum_eq, if_neg (by omega), if_neg (by omega)]
        omega
end Go.Gj

/-
  strings.Builder: what a write leaves, what String gives.
-/
namespace Go.Proofs
open Go.Shelf
def Tryz.lays169_ren : Go.Shelf.Ren := ⟨fun | 169 => 191 | n => n, fun | 70 => 238 | 9 => 9 | 0 => 0 | 72 => 241 | 37 => 239 | 127 => 296 | 3 => 3 | 5 => 5 | n => n, fun | n => n⟩
theorem Tryz.lays169 : Go.Proofs.Lays.n169 Tryz.prog Tryz.lays169_ren := {
  mixed := by kernel_rfl
  f169 := Tryz.func191.trans (congrArg some (by kernel_rfl))
  t0 := Tryz.underlying0
  a0 := Tryz.isAgg0
  z0 := Tryz.sizeOf0
  v0 := Tryz.zeroValue0
  t3 := Tryz.underlying3
  a3 := Tryz.isAgg3
  z3 := Tryz.sizeOf3
  v3 := Tryz.zeroValue3
  t9 := Tryz.underlying9
  a9 := Tryz.isAgg9
  z9 := Tryz.sizeOf9
  v9 := Tryz.zeroValue9
  t37 := Tryz.underlying239
  a37 := Tryz.isAgg239
  z37 := Tryz.sizeOf239
  v37 := Tryz.zeroValue239
  t70 := Tryz.underlying238
  a70 := Tryz.isAgg238
  z70 := Tryz.sizeOf238
  v70 := Tryz.zeroValue238
  t72 := Tryz.underlying241
  a72 := Tryz.isAgg241
  z72 := Tryz.sizeOf241
  v72 := Tryz.zeroValue241
  t127 := Tryz.underlying296
  a127 := Tryz.isAgg296
  z127 := Tryz.sizeOf296
  v127 := Tryz.zeroValue296 }
theorem Tryz.builderExtra : Builder.Extra Tryz.prog Tryz.lays169_ren where
  sizeBuilder := by kernel_rfl
  liesBuilder := by kernel_rfl
  t5 := Tryz.underlying5
  a5 := Tryz.isAgg5
  z5 := Tryz.sizeOf5
  v5 := Tryz.zeroValue5
  infoByte := by kernel_rfl
  cellsByte := by kernel_rfl
  sizeByte := by kernel_rfl
  neB5 := by decide
end Go.Proofs
namespace Go.Gj
set_option linter.unusedSimpArgs false
set_option linter.unusedVariables false
set_option linter.unnecessarySimpa false
open Go Go.RowKit Go.Proofs

abbrev IsB (B b : Nat) (bs : List Value) (w : World) : Prop := Lib.IsBuilder 241 5 B b bs w
abbrev BAt (B b : Nat) (bs : List Value) (w : World) : Prop := Lib.BuilderAt 241 5 B b (.pointer (some ⟨b, 0, none⟩)) bs w

theorem info241 : ∃ j, Tryz.prog.info? 241 = some j ∧ j.size = 2 := by
  have h : (Tryz.prog.info? 241).map (fun i => i.size) = some 2 := by kernel_rfl
  obtain ⟨j, hj, hs⟩ := Option.map_eq_some_iff.1 h
  exact ⟨j, hj, hs⟩

set_option maxHeartbeats 1000000 in
set_option maxRecDepth 100000 in
theorem copyCheck_used (b : Nat) (w : World) (h0 : w.cell? ⟨b, 0, none⟩ = some (.pointer (some ⟨b, 0, none⟩))) :
    Calls Tryz.prog 239 #[.pointer (some ⟨b, 0, none⟩)] w fun e w' => e = .returned (.tuple #[]) ∧ w' = w := by
  obtain ⟨j, hj, _⟩ := info241
  go_enter Tryz.func239, Tryz.ntmps239
  go_wp2
  rw [Lib.run_neq_ptr_same w _ Tryz.underlying238 hj]
  go_wp2
  go_end0
  exact ⟨rfl, rfl⟩

set_option maxHeartbeats 1000000 in
set_option maxRecDepth 100000 in
theorem copyCheck_fresh (b : Nat) (w : World) (h0 : w.cell? ⟨b, 0, none⟩ = some (.pointer none)) (hsh : w.shape? b = some (241, 2)) (hfz : w.frozen? ⟨b, 0, none⟩ = false) :
    Calls Tryz.prog 239 #[.pointer (some ⟨b, 0, none⟩)] w fun e w' => e = .returned (.tuple #[]) ∧ w' = w.setCell ⟨b, 0, none⟩ (.pointer (some ⟨b, 0, none⟩)) := by
  obtain ⟨j, hj, hjs⟩ := info241
  go_enter Tryz.func239, Tryz.ntmps239
  go_wp2
  rw [Lib.run_to_unsafe w ⟨b, 0, none⟩ Tryz.underlying238 Tryz.underlying258 hj (by rw [hjs]; decide) hsh (Nat.zero_lt_succ 1)]
  simp only [Result.andThen]
  rw [Oper.upon_value]
  go_wp2
  rw [run_callFunc_extern Tryz.func299 (by kernel_rfl) (by kernel_rfl) (by kernel_rfl) (e := Extern.AbiNoEscape.same) (by kernel_rfl)]
  rw [Lib.run_noEscape]
  simp only [Result.andThen]
  rw [Oper.upon_value]
  go_wp2
  rw [Lib.run_from_unsafe w ⟨b, 0, none⟩ Tryz.underlying258 Tryz.underlying238 hj hsh (by kernel_rfl)]
  simp only [Result.andThen]
  rw [Oper.upon_value]
  go_wp2
  go_end0
  exact ⟨rfl, rfl⟩

theorem copyCheck_ok (B b : Nat) (bs : List Value) (w : World) (h : IsB B b bs w) :
    Calls Tryz.prog 239 #[.pointer (some ⟨b, 0, none⟩)] w fun e w' => e = .returned (.tuple #[]) ∧ BAt B b bs w' ∧ Below B w w' := by
  rcases h with h | h
  · refine (copyCheck_fresh b w h.cell0 h.shape h.frozen0).mono ?_
    rintro e w' ⟨rfl, rfl⟩
    exact ⟨rfl, h.used _, (Below.refl B w).setCell (p := ⟨b, 0, none⟩) h.1 _⟩
  · refine (copyCheck_used b w h.cell0).mono ?_
    rintro e w' ⟨rfl, rfl⟩
    exact ⟨rfl, h, Below.refl B _⟩

theorem String_ok (B b : Nat) (l : List UInt8) (w : World) (h : IsB B b (Lib.byteCells l) w) (hBw : B ≤ w.heap.size) :
    Calls Tryz.prog 191 #[.pointer (some ⟨b, 0, none⟩)] w fun e w' => e = .returned (.string (bytesOf l)) ∧ Below B w w' :=
  Any.Builder_String_any Tryz.lays169 Tryz.builderExtra B b l w h hBw

theorem infoByte : (Tryz.prog.info? 5).map (fun i => (i.zero, i.size, i.bytes)) = some (some (.int .u8 0), 1, 1) := by kernel_rfl

set_option maxHeartbeats 2000000 in
set_option maxRecDepth 100000 in
theorem WriteString_ok (B b : Nat) (bs : List Value) (s : ByteArray) (w : World) (h : IsB B b bs w) (hlen : bs.length + s.size ≤ 140737488355328) (hBw : B ≤ w.heap.size) :
    Calls Tryz.prog 189 #[.pointer (some ⟨b, 0, none⟩), .string s] w fun e w' => e = .returned (.tuple #[.int .i64 s.size, .nilIface]) ∧ BAt B b (bs ++ Lib.strCells s) w' ∧ Below B w w' := by
  obtain ⟨i0, hi, hz0, hz1, hz2⟩ := info_parts infoByte
  have HC := Lib.hid (copyCheck_ok B b bs w h)
  clear h
  go_enter Tryz.func189, Tryz.ntmps189
  go_wp2_with (go_at_call 239; refine HC.out.mono ?_)
  rintro e w1 ⟨rfl, h1, hb1⟩
  obtain ⟨hB, v, hbk, hown, hne⟩ := h1
  have c0 : w1.cell? ⟨b, 0, none⟩ = some (.pointer (some ⟨b, 0, none⟩)) := by rw [Lib.cell_of_heap hbk]; rfl
  have c1 : w1.cell? ⟨b, 1, none⟩ = some v := by rw [Lib.cell_of_heap hbk]; rfl
  go_wp2_with (at_builtin; refine Lib.wpList_append_own_string _ rfl _ _ 239 9 rfl B 5 i0 Tryz.underlying239 Tryz.underlying9 hi hz0 hz1 hz2 _ _ _ rfl hown s rfl ?c3 ?c4 ?c5 ?_)
  case c3 => unfold maxLen; omega
  case c4 => omega
  case c5 => have := hb1.size; omega
  intro v' w2 hown' hgrow _
  have hlt : b < w1.heap.size := by
    rcases Nat.lt_or_ge b w1.heap.size with h' | h'
    · exact h'
    · simp [Array.getElem?_eq_none h'] at hbk
  have hb2 : w2.heap[b]? = some (.cells #[.pointer (some ⟨b, 0, none⟩), v] 241 (0, 0)) := by
    rw [hgrow.block b hlt (fun e => hne e.symm)]
    exact hbk
  have d0 : w2.cell? ⟨b, 0, none⟩ = some (.pointer (some ⟨b, 0, none⟩)) := by rw [Lib.cell_of_heap hb2]; rfl
  have d1 : w2.cell? ⟨b, 1, none⟩ = some v := by rw [Lib.cell_of_heap hb2]; rfl
  have f1 : w2.frozen? ⟨b, 1, none⟩ = false := Lib.frozen_of_heap hb2 1
  obtain ⟨ao, n', cap, rfl⟩ : ∃ ao n' cap, v' = .slice ao n' cap := by
    rcases hown'.2 with ⟨hv, _⟩ | ⟨g, cap, cur, hv, _⟩
    · exact ⟨_, _, _, hv⟩
    · exact ⟨_, _, _, hv⟩
  go_wp2
  go_ret2
  refine ⟨rfl, ?_, ?_⟩
  · exact Lib.BuilderAt.put (T := 241) (e := 5) hB hb2 (bs' := bs ++ Lib.strCells s) (by simpa [Lib.strCells_length] using hown') (by decide)
  · exact (hb1.grown hgrow (by have := hb1.size; omega) (fun k hk => (hown.lt k hk).1)).setCell (p := ⟨b, 1, none⟩) hB _

theorem heap_setCell_ne (w : World) (a : Addr) (v : Value) (k : Nat) (h : k ≠ a.block) : (w.setCell a v).heap[k]? = w.heap[k]? := by
  simp only [World.setCell, Array.getElem?_modify]
  rw [if_neg (fun e => h e.symm)]

theorem copyCheck_ok2 (B b : Nat) (bs : List Value) (w : World) (h : IsB B b bs w) :
    Calls Tryz.prog 239 #[.pointer (some ⟨b, 0, none⟩)] w fun e w' => e = .returned (.tuple #[]) ∧ BAt B b bs w' ∧ Below B w w' ∧ ∀ k, k ≠ b → w'.heap[k]? = w.heap[k]? := by
  rcases h with h | h
  · refine (copyCheck_fresh b w h.cell0 h.shape h.frozen0).mono ?_
    rintro e w' ⟨rfl, rfl⟩
    exact ⟨rfl, h.used _, (Below.refl B w).setCell (p := ⟨b, 0, none⟩) h.1 _, fun k hk => heap_setCell_ne _ _ _ k hk⟩
  · refine (copyCheck_used b w h.cell0).mono ?_
    rintro e w' ⟨rfl, rfl⟩
    exact ⟨rfl, h, Below.refl B _, fun _ _ => rfl⟩

set_option maxHeartbeats 2000000 in
set_option maxRecDepth 100000 in
/-- Write, of bytes that lie in another block. -/
theorem Write_ok (B b : Nat) (bs : List Value) (l : List UInt8) (w : World) (E o c : Nat) (h : IsB B b bs w) (hlen : bs.length + l.length ≤ 140737488355328) (hBw : B ≤ w.heap.size) (hEb : E ≠ b)
    (hc : ∀ j (hj : j < l.length), w.cell? ⟨E, o + j, none⟩ = some (.int .u8 (l[j].toNat : Int))) :
    Calls Tryz.prog 445 #[.pointer (some ⟨b, 0, none⟩), .slice (some ⟨E, o, none⟩) l.length c] w fun e w' => (∃ v, e = .returned v) ∧ BAt B b (bs ++ Lib.byteCells l) w' ∧ Below B w w' := by
  obtain ⟨i0, hi, hz0, hz1, hz2⟩ := info_parts infoByte
  have HC := Lib.hid (copyCheck_ok2 B b bs w h)
  have HE := Lib.hid hc
  clear h hc
  go_enter Tryz.func445, Tryz.ntmps445
  go_wp2_with (go_at_call 239; refine HC.out.mono ?_)
  rintro e w1 ⟨rfl, h1, hb1, hk1⟩
  obtain ⟨hB, v, hbk, hown, hne⟩ := h1
  have hnews : ∀ j u, (Lib.byteCells l)[j]? = some u → w1.cell? ((⟨E, o, none⟩ : Addr).add j) = some u := fun j u hj => by
    have hj' : j < l.length := by
      have := (List.getElem?_eq_some_iff.1 hj).1
      simpa [Lib.byteCells] using this
    rw [Lib.add_plain, World.cell?_of_block (w := w) (hk1 E hEb), HE.out j hj']
    simp [Lib.byteCells, List.getElem?_eq_getElem hj'] at hj
    rw [← hj]
  have HK := Lib.hid hk1
  clear hk1
  have c0 : w1.cell? ⟨b, 0, none⟩ = some (.pointer (some ⟨b, 0, none⟩)) := by rw [Lib.cell_of_heap hbk]; rfl
  have c1 : w1.cell? ⟨b, 1, none⟩ = some v := by rw [Lib.cell_of_heap hbk]; rfl
  have HN := Lib.hid hnews
  clear hnews
  go_wp2_with (at_builtin; refine wpList_append_own _ rfl _ _ 239 rfl B 5 i0 (.int .u8 0) 1 1 Tryz.underlying239 hi hz0 hz1 hz2 rfl (by decide) _ _ _ rfl hown ⟨E, o, none⟩ l.length c (Lib.byteCells l) rfl (by rw [Lib.byteCells_length, Nat.mul_one]) HN.out (fun u hu => by simp only [Lib.byteCells, List.mem_map] at hu; obtain ⟨x, _, rfl⟩ := hu; rfl) ?c3 ?c4 ?c5 ?_)
  case c3 => unfold maxLen; omega
  case c4 => omega
  case c5 => have := hb1.size; omega
  intro v' w2 hown' hgrow _
  have hlt : b < w1.heap.size := by
    rcases Nat.lt_or_ge b w1.heap.size with h' | h'
    · exact h'
    · simp [Array.getElem?_eq_none h'] at hbk
  have hb2 : w2.heap[b]? = some (.cells #[.pointer (some ⟨b, 0, none⟩), v] 241 (0, 0)) := by
    rw [hgrow.block b hlt (fun e => hne e.symm)]
    exact hbk
  have d0 : w2.cell? ⟨b, 0, none⟩ = some (.pointer (some ⟨b, 0, none⟩)) := by rw [Lib.cell_of_heap hb2]; rfl
  have d1 : w2.cell? ⟨b, 1, none⟩ = some v := by rw [Lib.cell_of_heap hb2]; rfl
  have f1 : w2.frozen? ⟨b, 1, none⟩ = false := Lib.frozen_of_heap hb2 1
  obtain ⟨ao, n', cap, rfl⟩ : ∃ ao n' cap, v' = .slice ao n' cap := by
    rcases hown'.2 with ⟨hv, _⟩ | ⟨g, cap, cur, hv, _⟩
    · exact ⟨_, _, _, hv⟩
    · exact ⟨_, _, _, hv⟩
  go_wp2
  go_ret2
  refine ⟨⟨_, rfl⟩, ?_, ?_⟩
  · exact Lib.BuilderAt.put (T := 241) (e := 5) hB hb2 (bs' := bs ++ Lib.byteCells l) (by simpa [Lib.byteCells_length] using hown') (by decide)
  · exact (hb1.grown hgrow (by have := hb1.size; omega) (fun k hk => (hown.lt k hk).1)).setCell (p := ⟨b, 1, none⟩) hB _

end Go.Gj
