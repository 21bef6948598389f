/-
  gojq: update, by the path's length.
-/
import Derived.Test.YtnlndpgbhmkanaaGreatDoorWSetL
namespace Go.Gj
set_option linter.unusedSimpArgs false
set_option linter.unusedVariables false
set_option linter.unnecessarySimpa false
open Go Go.RowKit Go.Proofs

set_option maxRecDepth 100000 in
theorem update_nil : UpOk [] := by
  intro v x w gv gx vp _ _ hx hp
  obtain ⟨a, c, rfl, _⟩ := hp
  have HX := Lib.hid hx
  clear hx
  go_enter Tryz.func186, Tryz.ntmps186
  go_wp2_with fail
  exact bodyPost_ret (v := .tuple #[gx, .nilIface]) (by simp [results, Tryz.results186, go_sem]) rfl ⟨_, rfl, Below.refl _ _, HX.out⟩





theorem UpIs.tuple {w w' : World} {a : Option J} {e : Ending} (h : UpIs w a w' e) : ∃ r1 r2, e = .returned (.tuple #[r1, r2]) := by
  cases a with
  | none => obtain ⟨t, v, rfl, _⟩ := h; exact ⟨_, _, rfl⟩
  | some r => obtain ⟨g, rfl, _⟩ := h; exact ⟨_, _, rfl⟩

set_option maxHeartbeats 1000000 in
set_option maxRecDepth 100000 in
theorem update_str_null (p : List J) (s : ByteArray) (w : World) (b o c : Nat) (gx : Value) (a : Option J)  (hc : p.length + 1 ≤ c) (hcap : c ≤ capMost) (hcell : w.cell? ⟨b, o, none⟩ = some (.iface 9 (.string s)))
    (HO : ∀ o' c', (o' = o + 1 ∨ p.length = 0) → p.length ≤ c' → c' ≤ capMost → Calls Tryz.prog 235 #[.map none, .string s, .slice (some ⟨b, o', none⟩) p.length c', gx, .map none] w fun e w' => UpIs w a w' e) :
    Calls Tryz.prog 186 #[.nilIface, .slice (some ⟨b, o, none⟩) (p.length + 1) c, gx, .map none] w fun e w' => UpIs w a w' e := by
  have HH1 : Hid (c = 1 → Calls Tryz.prog 235 #[.map none, .string s, .slice (some ⟨b, o, none⟩) p.length 0, gx, .map none] w fun e w' => UpIs w a w' e) := Lib.hid fun h => HO o 0 (.inr (by omega)) (by omega) (Nat.zero_le _)
  have HH2 := Lib.hid (HO (o + 1) (c - 1) (.inl rfl) (by omega) (by omega))
  clear HO
  have h1 : (1 : Int) ≤ (p.length : Int) + 1 := by omega
  have h2 : ((p.length : Int) + 1) ≤ c := by omega
  go_enter Tryz.func186, Tryz.ntmps186
  go_wp2_with fail
  case inl =>
    have h := HH1.out (by omega)
    with_reducible refine h.mono ?_
    intro e w1 hu
    obtain ⟨r1, r2, rfl⟩ := hu.tuple
    go_wp2_with fail
    exact bodyPost_ret (v := .tuple #[r1, r2]) (by simp [results, Tryz.results186, go_sem]) rfl hu
  case inr =>
    with_reducible refine HH2.out.mono ?_
    intro e w1 hu
    obtain ⟨r1, r2, rfl⟩ := hu.tuple
    go_wp2_with fail
    exact bodyPost_ret (v := .tuple #[r1, r2]) (by simp [results, Tryz.results186, go_sem]) rfl hu

set_option maxHeartbeats 1000000 in
set_option maxRecDepth 100000 in
theorem update_str_obj (p : List J) (s : ByteArray) (w : World) (b o c : Nat) (gx : Value) (a : Option J) (r : Nat) (hc : p.length + 1 ≤ c) (hcap : c ≤ capMost) (hcell : w.cell? ⟨b, o, none⟩ = some (.iface 9 (.string s)))
    (HO : ∀ o' c', (o' = o + 1 ∨ p.length = 0) → p.length ≤ c' → c' ≤ capMost → Calls Tryz.prog 235 #[.map (some r), .string s, .slice (some ⟨b, o', none⟩) p.length c', gx, .map none] w fun e w' => UpIs w a w' e) :
    Calls Tryz.prog 186 #[.iface 83 (.map (some r)), .slice (some ⟨b, o, none⟩) (p.length + 1) c, gx, .map none] w fun e w' => UpIs w a w' e := by
  have HH1 : Hid (c = 1 → Calls Tryz.prog 235 #[.map (some r), .string s, .slice (some ⟨b, o, none⟩) p.length 0, gx, .map none] w fun e w' => UpIs w a w' e) := Lib.hid fun h => HO o 0 (.inr (by omega)) (by omega) (Nat.zero_le _)
  have HH2 := Lib.hid (HO (o + 1) (c - 1) (.inl rfl) (by omega) (by omega))
  clear HO
  have h1 : (1 : Int) ≤ (p.length : Int) + 1 := by omega
  have h2 : ((p.length : Int) + 1) ≤ c := by omega
  go_enter Tryz.func186, Tryz.ntmps186
  go_wp2_with fail
  case inl =>
    have h := HH1.out (by omega)
    with_reducible refine h.mono ?_
    intro e w1 hu
    obtain ⟨r1, r2, rfl⟩ := hu.tuple
    go_wp2_with fail
    exact bodyPost_ret (v := .tuple #[r1, r2]) (by simp [results, Tryz.results186, go_sem]) rfl hu
  case inr =>
    with_reducible refine HH2.out.mono ?_
    intro e w1 hu
    obtain ⟨r1, r2, rfl⟩ := hu.tuple
    go_wp2_with fail
    exact bodyPost_ret (v := .tuple #[r1, r2]) (by simp [results, Tryz.results186, go_sem]) rfl hu

set_option maxHeartbeats 1000000 in
set_option maxRecDepth 100000 in
theorem update_num_null (p : List J) (i : Int) (w : World) (b o c : Nat) (gx : Value) (a : Option J)  (hc : p.length + 1 ≤ c) (hcap : c ≤ capMost) (hcell : w.cell? ⟨b, o, none⟩ = some (.iface 3 (.int .i64 i)))
    (HO : ∀ o' c', (o' = o + 1 ∨ p.length = 0) → p.length ≤ c' → c' ≤ capMost → Calls Tryz.prog 236 #[.slice none 0 0, .int .i64 i, .slice (some ⟨b, o', none⟩) p.length c', gx, .map none] w fun e w' => UpIs w a w' e) :
    Calls Tryz.prog 186 #[.nilIface, .slice (some ⟨b, o, none⟩) (p.length + 1) c, gx, .map none] w fun e w' => UpIs w a w' e := by
  have HH1 : Hid (c = 1 → Calls Tryz.prog 236 #[.slice none 0 0, .int .i64 i, .slice (some ⟨b, o, none⟩) p.length 0, gx, .map none] w fun e w' => UpIs w a w' e) := Lib.hid fun h => HO o 0 (.inr (by omega)) (by omega) (Nat.zero_le _)
  have HH2 := Lib.hid (HO (o + 1) (c - 1) (.inl rfl) (by omega) (by omega))
  clear HO
  have h1 : (1 : Int) ≤ (p.length : Int) + 1 := by omega
  have h2 : ((p.length : Int) + 1) ≤ c := by omega
  go_enter Tryz.func186, Tryz.ntmps186
  go_wp2_with (go_at_call 102; refine (toInt_int _ _).mono ?_; rintro e w ⟨rfl, rfl⟩)
  case inl =>
    have h := HH1.out (by omega)
    with_reducible refine h.mono ?_
    intro e w1 hu
    obtain ⟨r1, r2, rfl⟩ := hu.tuple
    go_wp2_with fail
    exact bodyPost_ret (v := .tuple #[r1, r2]) (by simp [results, Tryz.results186, go_sem]) rfl hu
  case inr =>
    with_reducible refine HH2.out.mono ?_
    intro e w1 hu
    obtain ⟨r1, r2, rfl⟩ := hu.tuple
    go_wp2_with fail
    exact bodyPost_ret (v := .tuple #[r1, r2]) (by simp [results, Tryz.results186, go_sem]) rfl hu

set_option maxHeartbeats 1000000 in
set_option maxRecDepth 100000 in
theorem update_num_arr (p : List J) (i : Int) (w : World) (b o c : Nat) (gx : Value) (a : Option J) (va : Value) (hc : p.length + 1 ≤ c) (hcap : c ≤ capMost) (hcell : w.cell? ⟨b, o, none⟩ = some (.iface 3 (.int .i64 i)))
    (HO : ∀ o' c', (o' = o + 1 ∨ p.length = 0) → p.length ≤ c' → c' ≤ capMost → Calls Tryz.prog 236 #[va, .int .i64 i, .slice (some ⟨b, o', none⟩) p.length c', gx, .map none] w fun e w' => UpIs w a w' e) :
    Calls Tryz.prog 186 #[.iface 80 va, .slice (some ⟨b, o, none⟩) (p.length + 1) c, gx, .map none] w fun e w' => UpIs w a w' e := by
  have HH1 : Hid (c = 1 → Calls Tryz.prog 236 #[va, .int .i64 i, .slice (some ⟨b, o, none⟩) p.length 0, gx, .map none] w fun e w' => UpIs w a w' e) := Lib.hid fun h => HO o 0 (.inr (by omega)) (by omega) (Nat.zero_le _)
  have HH2 := Lib.hid (HO (o + 1) (c - 1) (.inl rfl) (by omega) (by omega))
  clear HO
  have h1 : (1 : Int) ≤ (p.length : Int) + 1 := by omega
  have h2 : ((p.length : Int) + 1) ≤ c := by omega
  go_enter Tryz.func186, Tryz.ntmps186
  go_wp2_with (go_at_call 102; refine (toInt_int _ _).mono ?_; rintro e w ⟨rfl, rfl⟩)
  case inl =>
    have h := HH1.out (by omega)
    with_reducible refine h.mono ?_
    intro e w1 hu
    obtain ⟨r1, r2, rfl⟩ := hu.tuple
    go_wp2_with fail
    exact bodyPost_ret (v := .tuple #[r1, r2]) (by simp [results, Tryz.results186, go_sem]) rfl hu
  case inr =>
    with_reducible refine HH2.out.mono ?_
    intro e w1 hu
    obtain ⟨r1, r2, rfl⟩ := hu.tuple
    go_wp2_with fail
    exact bodyPost_ret (v := .tuple #[r1, r2]) (by simp [results, Tryz.results186, go_sem]) rfl hu

set_option maxHeartbeats 1000000 in
set_option maxRecDepth 100000 in
theorem update_err_obj (p : List J) (s : ByteArray) (w : World) (b o c : Nat) (gx : Value) (gt : TypeId) (gv : Value) (h83 : ∀ w', (Instr.typeAssert (.iface gt gv) 20 83 true).run Tryz.prog w' = .ok (.tuple #[.map none, .bool false]) w') (h141 : ∀ w', (Instr.typeAssert (.iface gt gv) 20 141 true).run Tryz.prog w' = .ok (.tuple #[.agg #[], .bool false]) w') (hcell : w.cell? ⟨b, o, none⟩ = some (.iface 9 (.string s))) :
    Calls Tryz.prog 186 #[.iface gt gv, .slice (some ⟨b, o, none⟩) (p.length + 1) c, gx, .map none] w fun e w' => UpIs w none w' e := by
  have HB := Lib.hid (below1 w (.cells #[.iface gt gv] 108))
  have h1 : (1 : Int) ≤ (p.length : Int) + 1 := by omega
  go_enter Tryz.func186, Tryz.ntmps186
  go_wp2_with fail
  exact bodyPost_ret (v := .tuple #[.nilIface, .iface 106 (.pointer (some ⟨w.heap.size, 0, none⟩))]) (by simp [results, Tryz.results186, go_sem]) rfl ⟨_, _, rfl, HB.out⟩

set_option maxHeartbeats 1000000 in
set_option maxRecDepth 100000 in
theorem update_err_arr (p : List J) (i : Int) (w : World) (b o c : Nat) (gx : Value) (gt : TypeId) (gv : Value) (h80 : ∀ w', (Instr.typeAssert (.iface gt gv) 20 80 true).run Tryz.prog w' = .ok (.tuple #[.slice none 0 0, .bool false]) w') (h141 : ∀ w', (Instr.typeAssert (.iface gt gv) 20 141 true).run Tryz.prog w' = .ok (.tuple #[.agg #[], .bool false]) w') (hcell : w.cell? ⟨b, o, none⟩ = some (.iface 3 (.int .i64 i))) :
    Calls Tryz.prog 186 #[.iface gt gv, .slice (some ⟨b, o, none⟩) (p.length + 1) c, gx, .map none] w fun e w' => UpIs w none w' e := by
  have HB := Lib.hid (below1 w (.cells #[.iface gt gv] 115))
  have h1 : (1 : Int) ≤ (p.length : Int) + 1 := by omega
  go_enter Tryz.func186, Tryz.ntmps186
  go_wp2_with (go_at_call 102; refine (toInt_int _ _).mono ?_; rintro e w ⟨rfl, rfl⟩)
  exact bodyPost_ret (v := .tuple #[.nilIface, .iface 114 (.pointer (some ⟨w.heap.size, 0, none⟩))]) (by simp [results, Tryz.results186, go_sem]) rfl ⟨_, _, rfl, HB.out⟩

end Go.Gj

/-
  gojq: update, setpath, ZzSetPath.
-/
namespace Go.Gj
set_option linter.unusedSimpArgs false
set_option linter.unusedVariables false
set_option linter.unnecessarySimpa false
open Go Go.RowKit Go.Proofs

theorem update_ok : ∀ p : List J, (∀ k ∈ p, keyOk k) → UpOk p
  | [], _ => update_nil
  | k :: p, hk => by
    intro v x w gv gx vp hv hgv hgx hp
    have ih := update_ok p fun y hy => hk y (List.mem_cons_of_mem _ hy)
    have hk0 := hk k List.mem_cons_self
    obtain ⟨a, c, rfl, hc, hcap, hor⟩ := hp
    obtain ⟨b, o, rfl, hb, ⟨gk, hcell, hrk⟩, hrest⟩ := hor.resolve_left (by simp)
    have hPS : ∀ o' c', (o' = o + 1 ∨ p.length = 0) → p.length ≤ c' → c' ≤ capMost → PSl w p (.slice (some ⟨b, o', none⟩) p.length c') := fun o' c' h1 h2 h3 => by
      refine ⟨_, c', rfl, h2, h3, ?_⟩
      rcases h1 with rfl | h
      · exact .inr ⟨b, _, rfl, hb, hrest⟩
      · exact .inl (List.eq_nil_of_length_eq_zero h)
    show Calls Tryz.prog 186 #[gv, .slice (some ⟨b, o, none⟩) (p.length + 1) c, gx, .map none] w _
    have hc' : p.length + 1 ≤ c := hc
    cases k with
    | str s =>
      obtain ⟨rfl, hsz⟩ := hrk
      cases v with
      | null =>
        obtain rfl : gv = .nilIface := hgv
        exact update_str_null p s w b o c gx _ hc' hcap hcell fun o' c' h1 h2 h3 => updateObject_ok p ih none [] [] s hsz ⟨rfl, Nat.zero_le _, trivial, fun k hk => by simp at hk, trivial⟩ x w gx _ (.inl ⟨rfl, rfl, rfl⟩) hgx (hPS o' c' h1 h2 h3)
      | bool y => obtain rfl : gv = .iface 4 (.bool y) := hgv; exact update_err_obj p s w b o c gx _ _ (fun w' => as_4_83 _ w') (fun w' => as_4_141 _ w') hcell
      | num n =>
        rcases hgv with ⟨_, _, _, rfl⟩ | ⟨_, _, rfl⟩
        · exact update_err_obj p s w b o c gx _ _ (fun w' => as_3_83 _ w') (fun w' => as_3_141 _ w') hcell
        · exact update_err_obj p s w b o c gx _ _ (fun w' => as_79_83 _ w') (fun w' => as_79_141 _ w') hcell
      | str t => obtain rfl : gv = .iface 9 (.string t) := hgv.1; exact update_err_obj p s w b o c gx _ _ (fun w' => as_9_83 _ w') (fun w' => as_9_141 _ w') hcell
      | arr l => obtain ⟨b', o', c', rfl, _⟩ := hgv; exact update_err_obj p s w b o c gx _ _ (fun w' => as_80_83 _ w') (fun w' => as_80_141 _ w') hcell
      | obj ks vs =>
        have hgv' := hgv
        obtain ⟨r, es, clk, rfl, _⟩ := hgv
        exact update_str_obj p s w b o c gx _ r hc' hcap hcell fun o' c' h1 h2 h3 => updateObject_ok p ih (some r) ks vs s hsz hv x w gx _ (.inr ⟨r, rfl, hgv'⟩) hgx (hPS o' c' h1 h2 h3)
    | num h =>
      obtain ⟨h1, h2, h3⟩ := hk0
      obtain rfl : gk = .iface 3 (.int .i64 (h / 2)) := by
        rcases hrk with ⟨_, _, _, rfl⟩ | ⟨h', _⟩
        · rfl
        · omega
      obtain ⟨n, hn⟩ : ∃ n : Nat, h / 2 = n := ⟨(h / 2).toNat, by omega⟩
      have hnt : (h / 2).toNat = n := by omega
      have hn100 : n ≤ 100 := by omega
      rw [hn] at hcell
      cases v with
      | null =>
        obtain rfl : gv = .nilIface := hgv
        rw [show setJ .null (.num h :: p) x = (setJ (([] : List J).getD n .null) p x).map fun u => .arr (setAt [] n u) by rw [getD_nil]; simp only [setJ, hnt]]
        exact update_num_null p n w b o c gx _ hc' hcap hcell fun o' c' h1 h2 h3 => updateIndex_ge p ih [] n hn100 (Nat.zero_le _) x w _ gx _ ⟨none, 0, rfl, Nat.le_refl _, Nat.zero_le _, .inl rfl⟩ hgx (hPS o' c' h1 h2 h3)
      | bool y => obtain rfl : gv = .iface 4 (.bool y) := hgv; exact update_err_arr p n w b o c gx _ _ (fun w' => as_4_80 _ w') (fun w' => as_4_141 _ w') hcell
      | num m =>
        rcases hgv with ⟨_, _, _, rfl⟩ | ⟨_, _, rfl⟩
        · exact update_err_arr p n w b o c gx _ _ (fun w' => as_3_80 _ w') (fun w' => as_3_141 _ w') hcell
        · exact update_err_arr p n w b o c gx _ _ (fun w' => as_79_80 _ w') (fun w' => as_79_141 _ w') hcell
      | str t => obtain rfl : gv = .iface 9 (.string t) := hgv.1; exact update_err_arr p n w b o c gx _ _ (fun w' => as_9_80 _ w') (fun w' => as_9_141 _ w') hcell
      | obj ks vs => obtain ⟨r, es, clk, rfl, _⟩ := hgv; exact update_err_arr p n w b o c gx _ _ (fun w' => as_83_80 _ w') (fun w' => as_83_141 _ w') hcell
      | arr l =>
        obtain ⟨b', o', c', rfl, hcc, hb', hcs⟩ := hgv
        rw [show setJ (.arr l) (.num h :: p) x = (setJ (l.getD n .null) p x).map fun u => .arr (setAt l n u) by simp only [setJ, hnt]]
        have hsrc : PSl w l (.slice (some ⟨b', o', none⟩) l.length c') := ⟨_, c', rfl, hcc.1, hcc.2, .inr ⟨b', o', rfl, hb', hcs⟩⟩
        refine update_num_arr p n w b o c gx _ _ hc' hcap hcell fun o' c' h1 h2 h3 => ?_
        by_cases hlt : n < l.length
        · exact updateIndex_lt p ih l n hn100 hlt hv x w _ gx _ hsrc hgx (hPS o' c' h1 h2 h3)
        · exact updateIndex_ge p ih l n hn100 (by omega) x w _ gx _ hsrc hgx (hPS o' c' h1 h2 h3)
    | _ => exact hk0.elim

theorem err_233 (v : Value) : IsErr (.iface 233 v) := ⟨⟨_, _, rfl⟩, fun w => by kernel_rfl⟩

/-- gojq's setpath. -/
theorem setpath_ok (v x : J) (p : List J) (hk : ∀ k ∈ p, keyOk k) (hv : v.ok) (hs : ∀ r, setJ v p x = some r → r.sz) (w : World) (gv gp gx : Value) (hgv : ARep w (allB w) v gv) (hgp : ARep w (allB w) (.arr p) gp) (hgx : ARep w (allB w) x gx) :
    Calls Tryz.prog 140 #[gv, gp, gx, .map none] w (AnyGives w (setJ v p x)) := by
  obtain ⟨b, o, c, rfl, hc, hb, hcs⟩ := hgp
  have hC := update_ok p hk v x w gv gx (.slice (some ⟨b, o, none⟩) p.length c) hv hgv hgx ⟨_, c, rfl, hc.1, hc.2, .inr ⟨b, o, rfl, hb, hcs⟩⟩
  cases hset : setJ v p x with
  | none =>
    rw [hset] at hC
    have HC : Hid (Calls Tryz.prog 186 #[gv, .slice (some ⟨b, o, none⟩) p.length c, gx, .map none] w fun e w' => ∃ t v, e = .returned (.tuple #[.nilIface, .iface t v]) ∧ Below w.heap.size w w') := Lib.hid hC
    have q1 := hgv.shape
    have q2 := hgx.shape
    clear hC hset hs hgv hgx hcs hk hv
    rcases q1 with rfl | ⟨t1, g1, rfl⟩ <;> rcases q2 with rfl | ⟨t2, g2, rfl⟩
    all_goals
      go_enter Tryz.func140, Tryz.ntmps140
      go_wp2_with (go_at_call 186; refine HC.out.mono ?_; rintro e w1 ⟨t, v, rfl, hb⟩; have HB := Lib.hid hb; clear hb)
      exact bodyPost_ret (v := .iface 233 (.pointer (some ⟨w1.heap.size, 0, none⟩))) (by simp [results, Tryz.results140, go_sem]) rfl ⟨_, rfl, HB.out.trans ((below1 _ _).mono HB.out.size), err_233 _⟩
  | some r =>
    rw [hset] at hC
    have HC : Hid (Calls Tryz.prog 186 #[gv, .slice (some ⟨b, o, none⟩) p.length c, gx, .map none] w fun e w' => ∃ g, e = .returned (.tuple #[g, .nilIface]) ∧ Below w.heap.size w w' ∧ ARep w' (allB w') r g) := Lib.hid hC
    have HS := Lib.hid (hs r hset)
    clear hC hset hs hgv hgx hcs hk hv
    go_enter Tryz.func140, Tryz.ntmps140
    go_wp2_with (go_at_call 186; refine HC.out.mono ?_; rintro e w1 ⟨g, rfl, hb, hr⟩; have HB := Lib.hid (And.intro hb hr); clear hb hr)
    exact bodyPost_ret (v := g) (by simp [results, Tryz.results140, go_sem]) rfl ⟨_, rfl, HB.out.1, HB.out.2, HS.out⟩

theorem funcSetpath_ok (v x : J) (p : List J) (hk : ∀ k ∈ p, keyOk k) (hv : v.ok) (hs : ∀ r, setJ v p x = some r → r.sz) (w : World) (gv gp gx : Value) (hgv : ARep w (allB w) v gv) (hgp : ARep w (allB w) (.arr p) gp) (hgx : ARep w (allB w) x gx) :
    Calls Tryz.prog 89 #[gv, gp, gx] w (AnyGives w (setJ v p x)) := by
  have HC := Lib.hid (setpath_ok v x p hk hv hs w gv gp gx hgv hgp hgx)
  clear hk hv hs hgv hgp hgx
  go_enter Tryz.func89, Tryz.ntmps89
  go_wp2_with (go_at_call 140; refine HC.out.mono ?_; rintro e w' ⟨g, rfl, hb, hg⟩)
  exact bodyPost_ret (v := g) (by simp [results, Tryz.results89, go_sem]) rfl ⟨_, rfl, hb, hg⟩

/-- gojq's ZzSetPath. -/
theorem ZzSetPath_ok (v x : J) (p : List J) (hk : ∀ k ∈ p, keyOk k) (hv : v.ok) (hs : ∀ r, setJ v p x = some r → r.sz) (w : World) (gv gp gx : Value) (hgv : ARep w (allB w) v gv) (hgp : ARep w (allB w) (.arr p) gp) (hgx : ARep w (allB w) x gx) :
    Calls Tryz.prog 65 #[gv, gp, gx] w (AnyGives w (setJ v p x)) := by
  have HC := Lib.hid (funcSetpath_ok v x p hk hv hs w gv gp gx hgv hgp hgx)
  clear hk hv hs hgv hgp hgx
  go_enter Tryz.func65, Tryz.ntmps65
  go_wp2_with (go_at_call 89; refine HC.out.mono ?_; rintro e w' ⟨g, rfl, hb, hg⟩)
  exact bodyPost_ret (v := g) (by simp [results, Tryz.results65, go_sem]) rfl ⟨_, rfl, hb, hg⟩
end Go.Gj
