/-
  gojq: funcGetpath. (Printed by wip/gen_getpath.py.)
-/
import Derived.Test.YtnlndpgbhmkanaaGreatDoorWIdx2
import Derived.Test.YtnlndpgbhmkanaaGreatDoorWRes
namespace Go.Gj
set_option linter.unusedSimpArgs false
set_option linter.unusedVariables false
set_option linter.unnecessarySimpa false
open Go Go.RowKit Go.Proofs

theorem okJ_idx {v k x : J} (hv : v.ok) (h : idxJ v k = some x) : x.ok := by
  cases v with
  | null => simp only [idxJ, Option.some.injEq] at h; subst h; trivial
  | bool b => cases k <;> simp [idxJ] at h
  | num m => cases k <;> simp [idxJ] at h
  | str s => cases k <;> simp [idxJ] at h
  | arr l =>
    cases k with
    | num m =>
      simp only [idxJ, Option.some.injEq] at h
      subst h
      have hl := (oks_iff l).1 hv.2
      by_cases hi : (m / 2).toNat < l.length
      · rw [List.getD_eq_getElem?_getD, List.getElem?_eq_getElem hi]; exact hl _ (List.getElem_mem _)
      · rw [List.getD_eq_getElem?_getD, List.getElem?_eq_none (by omega)]; trivial
    | _ => simp [idxJ] at h
  | obj ks vs =>
    cases k with
    | str s =>
      simp only [idxJ, Option.some.injEq] at h
      subst h
      have hl := (oks_iff vs).1 hv.2.2.2.2
      by_cases hm : s ∈ ks
      · obtain ⟨i, hi, rfl⟩ := List.getElem_of_mem hm
        rw [getK_at ks vs (rises_nodup hv.2.2.1) i hi (by have := hv.1; omega)]
        exact hl _ (List.getElem_mem _)
      · rw [getK_none ks vs s hm]; trivial
    | _ => simp [idxJ] at h

set_option maxHeartbeats 4000000 in
set_option maxRecDepth 100000 in
theorem getpath_nil (v0 : J) (p : List J) (hk : ∀ k ∈ p, keyOk k) (hv : v0.ok) (hlen : p.length ≤ 1000000) (w : World)  (hgv : ARep w (allB w) v0 (.nilIface)) (b o c : Nat) (hb : b < w.heap.size) (hp : ACells w (allB w) b p o) :
    Calls Tryz.prog 79 #[.nilIface, .iface 80 (.slice (some ⟨b, o, none⟩) p.length c)] w (AnyGives w (getJ v0 p)) := by
  have hbel := Below.refl w.heap.size w
  have HV := Lib.hid hv
  have HP := Lib.hid hp
  have HK := Lib.hid hk
  have HG := Lib.hid hgv
  clear hbel hv hp hk hgv
  go_enter Tryz.func79, Tryz.ntmps79
  go_upto_region 5 with fail
  go_wp2_with fail
  go_loopw [0, 27] (fun v i wr => ∃ (k : Nat) (x : J), k ≤ p.length ∧ i = .int .i64 k ∧ ARep wr (allB wr) x v ∧ x.ok ∧ Below w.heap.size w wr ∧ getJ x (p.drop k) = getJ v0 p) (fun _ i _ => p.length - (intOf i).toNat)
  case atStart => exact ⟨0, v0, Nat.zero_le _, rfl, HG.out, HV.out, Below.refl _ _, rfl⟩
  case round =>
    obtain ⟨k, x, hk1, rfl, hx, hxo, hbel, hget⟩ := hrel
    by_cases hlt : k < p.length
    · obtain ⟨ck, hck, hrk⟩ := ACells.at p o k hlt HP.out
      rw [← hbel.cell (p := ⟨b, o + k, none⟩) hb] at hck
      rw [getJ_drop x p k hlt] at hget
      have hrk2 : ARep wr (allB wr) p[k] ck := (hrk.below hbel (fun _ h => h)).mono (fun b h => Nat.lt_of_lt_of_le h hbel.size)
      have hkk := HK.out p[k] (List.getElem_mem hlt)
      by_cases hcon : x = .null ∨ (∃ l, x = .arr l) ∨ (∃ ks vs, x = .obj ks vs)
      · have hstr : strange x p[k] = false := by rcases hcon with rfl | ⟨l, rfl⟩ | ⟨ks, vs, rfl⟩ <;> rfl
        have HC := Lib.hid (idx2_ok x p[k] hkk hstr hxo wr u0 ck hx hrk2)
        have HGET := Lib.hid hget
        have HBE := Lib.hid hbel
        have HXO := Lib.hid hxo
        clear hget hbel hrk hrk2 hkk hstr
        have hsw : (u0 = .nilIface) ∨ (∃ u, u0 = .iface 80 u) ∨ (∃ u, u0 = .iface 83 u) := by
          rcases hcon with rfl | ⟨l, rfl⟩ | ⟨ks, vs, rfl⟩
          · exact .inl hx
          · obtain ⟨b', o', c', rfl, _⟩ := hx; exact .inr (.inl ⟨_, rfl⟩)
          · obtain ⟨r, es, clk, rfl, _⟩ := hx; exact .inr (.inr ⟨_, rfl⟩)
        clear hx hcon hxo
        cases hi : idxJ x p[k] with
        | some z =>
          rw [hi] at HC
          have HI := Lib.hid hi
          clear hi
          rcases hsw with rfl | ⟨u, rfl⟩ | ⟨u, rfl⟩
          all_goals
            go_wp2_with (go_at_call 78; refine HC.out.mono ?_; rintro e w' ⟨g, rfl, hb', hg⟩; have hea := err_no hg.1; have HBB := Lib.hid hb'; have HGG := Lib.hid hg; clear hb' hg)
            go_roundw
            case rel => exact ⟨k + 1, z, hlt, by go_num, HGG.out.1, okJ_idx HXO.out HI.out, HBE.out.trans (HBB.out.mono HBE.out.size), by have := HGET.out; rw [HI.out] at this; exact this⟩
            case measure => simp [intOf]; omega
        | none =>
          rw [hi] at HC
          have HI := Lib.hid hi
          clear hi
          rcases hsw with rfl | ⟨u, rfl⟩ | ⟨u, rfl⟩
          all_goals
            go_wp2_with (go_at_call 78; refine HC.out.mono ?_; rintro e w' ⟨g, rfl, hb', hg⟩; obtain ⟨⟨et, ev, rfl⟩, hea⟩ := (show IsErr _ from hg); have HBB := Lib.hid hb'; clear hb' hg)
            refine bodyPost_ret (v := .iface 129 (.pointer (some ⟨w'.heap.size, 0, none⟩))) (by simp [results, Tryz.results79, go_sem]) rfl ?_
            rw [← HGET.out, HI.out]
            exact ⟨_, rfl, ((HBE.out.trans (HBB.out.mono HBE.out.size)).alloc (Nat.le_trans HBE.out.size HBB.out.size) _), err_129 _⟩
      · have hi : idxJ x p[k] = none := by
          cases x with
          | null => exact absurd (.inl rfl) hcon
          | arr l => exact absurd (.inr (.inl ⟨l, rfl⟩)) hcon
          | obj ks vs => exact absurd (.inr (.inr ⟨ks, vs, rfl⟩)) hcon
          | _ => rfl
        have HGET : Hid (none = getJ v0 p) := by rw [hi] at hget; exact Lib.hid hget
        have HBE := Lib.hid hbel
        have hsw : (∃ u, u0 = .iface 4 u) ∨ (∃ u, u0 = .iface 3 u) ∨ (∃ u, u0 = .iface 79 u) ∨ (∃ u, u0 = .iface 9 u) := by
          cases x with
          | null => exact absurd (.inl rfl) hcon
          | arr l => exact absurd (.inr (.inl ⟨l, rfl⟩)) hcon
          | obj ks vs => exact absurd (.inr (.inr ⟨ks, vs, rfl⟩)) hcon
          | bool q => exact .inl ⟨_, hx⟩
          | num n => rcases hx with ⟨_, _, _, rfl⟩ | ⟨_, _, rfl⟩; exact .inr (.inl ⟨_, rfl⟩); exact .inr (.inr (.inl ⟨_, rfl⟩))
          | str s => exact .inr (.inr (.inr ⟨_, hx.1⟩))
        clear hget hbel hrk hrk2 hkk hx hcon hxo hi
        rcases hsw with ⟨u, rfl⟩ | ⟨u, rfl⟩ | ⟨u, rfl⟩ | ⟨u, rfl⟩
        all_goals
          go_wp2_with fail
          refine bodyPost_ret (v := .iface 126 (.pointer (some ⟨wr.heap.size, 0, none⟩))) (by simp [results, Tryz.results79, go_sem]) rfl ?_
          rw [← HGET.out]
          exact ⟨_, rfl, HBE.out.alloc HBE.out.size _, err_126 _⟩
    · have he : k = p.length := by omega
      subst he
      have HX := Lib.hid hx
      have HXO := Lib.hid hxo
      have HBE := Lib.hid hbel
      have HGET : Hid (some x = getJ v0 p) := by rw [List.drop_length] at hget; exact Lib.hid hget
      clear hx hxo hbel hget
      go_wp2_with fail
      refine bodyPost_ret (v := u0) (by simp [results, Tryz.results79, go_sem]) rfl ?_
      rw [← HGET.out]
      exact ⟨_, rfl, HBE.out, HX.out, sz_of_ok x HXO.out⟩

set_option maxHeartbeats 4000000 in
set_option maxRecDepth 100000 in
theorem getpath_iface (v0 : J) (p : List J) (hk : ∀ k ∈ p, keyOk k) (hv : v0.ok) (hlen : p.length ≤ 1000000) (w : World) (gt : TypeId) (gv : Value) (hgv : ARep w (allB w) v0 (.iface gt gv)) (b o c : Nat) (hb : b < w.heap.size) (hp : ACells w (allB w) b p o) :
    Calls Tryz.prog 79 #[.iface gt gv, .iface 80 (.slice (some ⟨b, o, none⟩) p.length c)] w (AnyGives w (getJ v0 p)) := by
  have hbel := Below.refl w.heap.size w
  have HV := Lib.hid hv
  have HP := Lib.hid hp
  have HK := Lib.hid hk
  have HG := Lib.hid hgv
  clear hbel hv hp hk hgv
  go_enter Tryz.func79, Tryz.ntmps79
  go_upto_region 5 with fail
  go_wp2_with fail
  go_loopw [0, 27] (fun v i wr => ∃ (k : Nat) (x : J), k ≤ p.length ∧ i = .int .i64 k ∧ ARep wr (allB wr) x v ∧ x.ok ∧ Below w.heap.size w wr ∧ getJ x (p.drop k) = getJ v0 p) (fun _ i _ => p.length - (intOf i).toNat)
  case atStart => exact ⟨0, v0, Nat.zero_le _, rfl, HG.out, HV.out, Below.refl _ _, rfl⟩
  case round =>
    obtain ⟨k, x, hk1, rfl, hx, hxo, hbel, hget⟩ := hrel
    by_cases hlt : k < p.length
    · obtain ⟨ck, hck, hrk⟩ := ACells.at p o k hlt HP.out
      rw [← hbel.cell (p := ⟨b, o + k, none⟩) hb] at hck
      rw [getJ_drop x p k hlt] at hget
      have hrk2 : ARep wr (allB wr) p[k] ck := (hrk.below hbel (fun _ h => h)).mono (fun b h => Nat.lt_of_lt_of_le h hbel.size)
      have hkk := HK.out p[k] (List.getElem_mem hlt)
      by_cases hcon : x = .null ∨ (∃ l, x = .arr l) ∨ (∃ ks vs, x = .obj ks vs)
      · have hstr : strange x p[k] = false := by rcases hcon with rfl | ⟨l, rfl⟩ | ⟨ks, vs, rfl⟩ <;> rfl
        have HC := Lib.hid (idx2_ok x p[k] hkk hstr hxo wr u0 ck hx hrk2)
        have HGET := Lib.hid hget
        have HBE := Lib.hid hbel
        have HXO := Lib.hid hxo
        clear hget hbel hrk hrk2 hkk hstr
        have hsw : (u0 = .nilIface) ∨ (∃ u, u0 = .iface 80 u) ∨ (∃ u, u0 = .iface 83 u) := by
          rcases hcon with rfl | ⟨l, rfl⟩ | ⟨ks, vs, rfl⟩
          · exact .inl hx
          · obtain ⟨b', o', c', rfl, _⟩ := hx; exact .inr (.inl ⟨_, rfl⟩)
          · obtain ⟨r, es, clk, rfl, _⟩ := hx; exact .inr (.inr ⟨_, rfl⟩)
        clear hx hcon hxo
        cases hi : idxJ x p[k] with
        | some z =>
          rw [hi] at HC
          have HI := Lib.hid hi
          clear hi
          rcases hsw with rfl | ⟨u, rfl⟩ | ⟨u, rfl⟩
          all_goals
            go_wp2_with (go_at_call 78; refine HC.out.mono ?_; rintro e w' ⟨g, rfl, hb', hg⟩; have hea := err_no hg.1; have HBB := Lib.hid hb'; have HGG := Lib.hid hg; clear hb' hg)
            go_roundw
            case rel => exact ⟨k + 1, z, hlt, by go_num, HGG.out.1, okJ_idx HXO.out HI.out, HBE.out.trans (HBB.out.mono HBE.out.size), by have := HGET.out; rw [HI.out] at this; exact this⟩
            case measure => simp [intOf]; omega
        | none =>
          rw [hi] at HC
          have HI := Lib.hid hi
          clear hi
          rcases hsw with rfl | ⟨u, rfl⟩ | ⟨u, rfl⟩
          all_goals
            go_wp2_with (go_at_call 78; refine HC.out.mono ?_; rintro e w' ⟨g, rfl, hb', hg⟩; obtain ⟨⟨et, ev, rfl⟩, hea⟩ := (show IsErr _ from hg); have HBB := Lib.hid hb'; clear hb' hg)
            refine bodyPost_ret (v := .iface 129 (.pointer (some ⟨w'.heap.size, 0, none⟩))) (by simp [results, Tryz.results79, go_sem]) rfl ?_
            rw [← HGET.out, HI.out]
            exact ⟨_, rfl, ((HBE.out.trans (HBB.out.mono HBE.out.size)).alloc (Nat.le_trans HBE.out.size HBB.out.size) _), err_129 _⟩
      · have hi : idxJ x p[k] = none := by
          cases x with
          | null => exact absurd (.inl rfl) hcon
          | arr l => exact absurd (.inr (.inl ⟨l, rfl⟩)) hcon
          | obj ks vs => exact absurd (.inr (.inr ⟨ks, vs, rfl⟩)) hcon
          | _ => rfl
        have HGET : Hid (none = getJ v0 p) := by rw [hi] at hget; exact Lib.hid hget
        have HBE := Lib.hid hbel
        have hsw : (∃ u, u0 = .iface 4 u) ∨ (∃ u, u0 = .iface 3 u) ∨ (∃ u, u0 = .iface 79 u) ∨ (∃ u, u0 = .iface 9 u) := by
          cases x with
          | null => exact absurd (.inl rfl) hcon
          | arr l => exact absurd (.inr (.inl ⟨l, rfl⟩)) hcon
          | obj ks vs => exact absurd (.inr (.inr ⟨ks, vs, rfl⟩)) hcon
          | bool q => exact .inl ⟨_, hx⟩
          | num n => rcases hx with ⟨_, _, _, rfl⟩ | ⟨_, _, rfl⟩; exact .inr (.inl ⟨_, rfl⟩); exact .inr (.inr (.inl ⟨_, rfl⟩))
          | str s => exact .inr (.inr (.inr ⟨_, hx.1⟩))
        clear hget hbel hrk hrk2 hkk hx hcon hxo hi
        rcases hsw with ⟨u, rfl⟩ | ⟨u, rfl⟩ | ⟨u, rfl⟩ | ⟨u, rfl⟩
        all_goals
          go_wp2_with fail
          refine bodyPost_ret (v := .iface 126 (.pointer (some ⟨wr.heap.size, 0, none⟩))) (by simp [results, Tryz.results79, go_sem]) rfl ?_
          rw [← HGET.out]
          exact ⟨_, rfl, HBE.out.alloc HBE.out.size _, err_126 _⟩
    · have he : k = p.length := by omega
      subst he
      have HX := Lib.hid hx
      have HXO := Lib.hid hxo
      have HBE := Lib.hid hbel
      have HGET : Hid (some x = getJ v0 p) := by rw [List.drop_length] at hget; exact Lib.hid hget
      clear hx hxo hbel hget
      go_wp2_with fail
      refine bodyPost_ret (v := u0) (by simp [results, Tryz.results79, go_sem]) rfl ?_
      rw [← HGET.out]
      exact ⟨_, rfl, HBE.out, HX.out, sz_of_ok x HXO.out⟩

/-- gojq's funcGetpath, ZzGetPath. -/
theorem getpath_ok (v0 : J) (p : List J) (hk : ∀ k ∈ p, keyOk k) (hv : v0.ok) (hlen : p.length ≤ 1000000) (w : World) (gv gp : Value) (hgv : ARep w (allB w) v0 gv) (hgp : ARep w (allB w) (.arr p) gp) :
    Calls Tryz.prog 79 #[gv, gp] w (AnyGives w (getJ v0 p)) := by
  obtain ⟨b, o, c, rfl, _, hb, hp⟩ := hgp
  rcases hgv.shape with rfl | ⟨gt, g, rfl⟩
  · exact getpath_nil v0 p hk hv hlen w hgv b o c hb hp
  · exact getpath_iface v0 p hk hv hlen w gt g hgv b o c hb hp
theorem ZzGetPath_ok (v0 : J) (p : List J) (hk : ∀ k ∈ p, keyOk k) (hv : v0.ok) (hlen : p.length ≤ 1000000) (w : World) (gv gp : Value) (hgv : ARep w (allB w) v0 gv) (hgp : ARep w (allB w) (.arr p) gp) :
    Calls Tryz.prog 52 #[gv, gp] w (AnyGives w (getJ v0 p)) := by
  have HC := Lib.hid (getpath_ok v0 p hk hv hlen w gv gp hgv hgp)
  clear hgv hgp hk hv
  go_enter Tryz.func52, Tryz.ntmps52
  go_wp2_with (go_at_call 79; refine HC.out.mono ?_; rintro e w' ⟨g, rfl, hb, hg⟩)
  exact bodyPost_ret (v := g) (by simp [results, Tryz.results52, go_sem]) rfl ⟨_, rfl, hb, hg⟩
end Go.Gj
