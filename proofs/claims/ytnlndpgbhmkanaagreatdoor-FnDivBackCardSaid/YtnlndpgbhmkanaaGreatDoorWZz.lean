/-
  laws.zzFits1, zzFits2: they give a bool, and change nothing.
-/
import Derived.Test.YtnlndpgbhmkanaaGreatDoorWLaw
namespace Go.Gj
open Go Go.RowKit Go.Proofs

theorem zzFits2_ok (ks : List ByteArray) (w : World) (S : Nat → Prop) (val : Value) (hS : ∀ b, S b → b < w.heap.size) (h : KSl w S ks val) :
    Calls Tryz.prog 46 #[val] w fun e w' => ∃ r, e = .returned (.bool r) ∧ Below w.heap.size w w' := by
  obtain ⟨a, c, rfl, hn, hat⟩ := h.at
  unfold mostLen at hn
  by_cases hb : (ks.length : Int) > 2147483647
  · have hbb : decide ((2147483647 : Int) < (ks.length : Int)) = true := by simp; omega
    go_enter Tryz.func46, Tryz.ntmps46
    go_wp2_with fail
    go_ret
    exact ⟨_, rfl, Below.refl _ _⟩
  · have hbb : decide ((2147483647 : Int) < (ks.length : Int)) = false := by simp; omega
    clear hb
    go_enter Tryz.func46, Tryz.ntmps46
    go_wp2_with fail
    go_loopw [10] (fun i wr => ∃ k : Nat, k ≤ ks.length ∧ i = .int .i64 k ∧ Below w.heap.size w wr) (fun i _ => ks.length - (intOf i).toNat)
    case atStart => exact ⟨0, Nat.zero_le _, rfl, Below.refl _ _⟩
    case round =>
      obtain ⟨k, hk, rfl, hbel⟩ := hrel
      by_cases hlt : k < ks.length
      · obtain ⟨b, o, rfl, hsb, hc, hs⟩ := hat k hlt
        rw [← hbel.cell (p := ⟨b, o + k, none⟩) (hS b hsb)] at hc
        have HBe := Lib.hid hbel
        clear hbel
        unfold mostLen at hs
        by_cases hb2 : (ks[k].size : Int) > 2147483647
        · have hb3 : decide ((2147483647 : Int) < (ks[k].size : Int)) = true := by simp; omega
          go_wp2_with fail
          go_ret
          exact ⟨_, rfl, HBe.out⟩
        · have hb3 : decide ((2147483647 : Int) < (ks[k].size : Int)) = false := by simp; omega
          clear hb2
          go_wp2_with fail
          go_roundw
          case rel => exact ⟨k + 1, hlt, by go_num, HBe.out⟩
          case measure => simp [intOf]; omega
      · have he : k = ks.length := by omega
        subst he
        go_wp2_with fail
        go_ret
        exact ⟨_, rfl, hbel⟩
end Go.Gj
