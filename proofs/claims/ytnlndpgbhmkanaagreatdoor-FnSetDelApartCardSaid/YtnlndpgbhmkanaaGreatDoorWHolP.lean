/-
  gojq: updateObject where a key is marked.
-/
import Derived.Test.YtnlndpgbhmkanaaGreatDoorWDel2
import Derived.Test.YtnlndpgbhmkanaaGreatDoorWSetP
namespace Go.Gj
set_option linter.unusedSimpArgs false
set_option linter.unusedVariables false
set_option linter.unnecessarySimpa false
open Go Go.RowKit Go.Proofs

variable {ma : Option Nat}

/-- What update answers where a key is marked. -/
def DelIs (w : World) (a : Option J) (w' : World) (e : Ending) : Prop := match a with
  | some y => ∃ g M, e = .returned (.tuple #[g, .nilIface]) ∧ Below w.heap.size w w' ∧ M ≤ w'.heap.size ∧ Hol w' w.heap.size M y g
  | none => ∃ t v, e = .returned (.tuple #[.nilIface, .iface t v]) ∧ Below w.heap.size w w'

theorem eq83_nil (w : World) : (binOp .eql 83 (.map none) (.map none)).run Tryz.prog w = .ok (.bool true) w := by kernel_rfl
theorem eq83_some (r : Nat) (w : World) : (binOp .eql 83 (.map (some r)) (.map none)).run Tryz.prog w = .ok (.bool false) w := by kernel_rfl
theorem eq80_nil (w : World) : (binOp .eql 80 (.slice none 0 0) (.slice none 0 0)).run Tryz.prog w = .ok (.bool true) w := by kernel_rfl
theorem eq80_some (a : Addr) (n c : Nat) (w : World) : (binOp .eql 80 (.slice (some a) n c) (.slice none 0 0)).run Tryz.prog w = .ok (.bool false) w := by kernel_rfl

set_option maxHeartbeats 1000000 in
set_option maxRecDepth 100000 in
theorem holO_nil (s : ByteArray) (vp : Value) (w : World) : Calls Tryz.prog 235 #[.map none, .string s, vp, .iface 141 (.agg #[]), .map ma] w fun e w' => e = .returned (.tuple #[.nilIface, .nilIface]) ∧ w' = w := by
  have hlk := run_lookup_nil w s true
  have hq1 := hole_eq
  have hq2 := hole_eg
  have hq3 := eq83_nil
  go_enter Tryz.func235, Tryz.ntmps235
  go_wp2_with fail
  exact bodyPost_ret (v := .tuple #[.nilIface, .nilIface]) (by simp [results, Tryz.results235, go_sem]) rfl ⟨rfl, rfl⟩

set_option maxHeartbeats 1000000 in
set_option maxRecDepth 100000 in
theorem holO_absent (r : Nat) (s : ByteArray) (vp : Value) (w : World) (hlk : (Instr.lookup 83 (.map (some r)) (.string s) true).run Tryz.prog w = .ok (.tuple #[.nilIface, .bool false]) w) :
    Calls Tryz.prog 235 #[.map (some r), .string s, vp, .iface 141 (.agg #[]), .map ma] w fun e w' => e = .returned (.tuple #[.iface 83 (.map (some r)), .nilIface]) ∧ w' = w := by
  have hq1 := hole_eq
  have hq2 := hole_eg
  have hq3 := eq83_some r
  go_enter Tryz.func235, Tryz.ntmps235
  go_wp2_with fail
  exact bodyPost_ret (v := .tuple #[.iface 83 (.map (some r)), .nilIface]) (by simp [results, Tryz.results235, go_sem]) rfl ⟨rfl, rfl⟩

set_option maxHeartbeats 1000000 in
set_option maxRecDepth 100000 in
theorem holO_err (r : Nat) (s : ByteArray) (vp : Value) (w : World) (g0 : Value) (hlk : (Instr.lookup 83 (.map (some r)) (.string s) true).run Tryz.prog w = .ok (.tuple #[g0, .bool true]) w)
    (hC : Calls Tryz.prog 186 #[g0, vp, .iface 141 (.agg #[]), .map ma] w fun e w' => ∃ t v, e = .returned (.tuple #[.nilIface, .iface t v]) ∧ Below w.heap.size w w') :
    Calls Tryz.prog 235 #[.map (some r), .string s, vp, .iface 141 (.agg #[]), .map ma] w fun e w' => ∃ t v, e = .returned (.tuple #[.nilIface, .iface t v]) ∧ Below w.heap.size w w' := by
  have HC := Lib.hid hC
  clear hC
  go_enter Tryz.func235, Tryz.ntmps235
  go_wp2_with (go_at_call 186; refine HC.out.mono ?_; rintro e w1 ⟨t, v, rfl, hb⟩)
  exact bodyPost_ret (v := .tuple #[.nilIface, .iface t v]) (by simp [results, Tryz.results235, go_sem]) rfl ⟨t, v, rfl, hb⟩

set_option maxRecDepth 100000 in
theorem makeObject_any (n : Int) (w : World) : Calls Tryz.prog 297 #[.map ma, .int .i64 n] w fun e w' => e = .returned (.map (some w.heap.size)) ∧ w' = w.alloc (.map #[] 0) := by
  have hm := run_makeMap83 w n
  go_enter Tryz.func297, Tryz.ntmps297
  go_wp2_with fail
  exact bodyPost_ret (v := .map (some w.heap.size)) (by simp [results, Tryz.results297, go_sem]) rfl ⟨rfl, rfl⟩

/-- What a marked map is. -/
def PutAt (w w1 : World) (es : Array MapEntry) (s : ByteArray) (g : Value) (w3 : World) (es2 : Array MapEntry) (clk2 : Nat) : Prop :=
  ∃ w2, (w1.alloc (.map #[] 0)).grownBy w2 (some w1.heap.size) ∧ w2.grownBy w3 (some w1.heap.size) ∧ w3.heap[w1.heap.size]? = some (.map es2 clk2) ∧ MapKept.Stamped es2 clk2 ∧
      (∀ x ∈ es2.toList, (x.key = .string s ∧ x.val = g) ∨ ∃ e ∈ es.toList, e.key = x.key ∧ e.val = x.val ∧ e.key ≠ .string s) ∧
      (∃ x ∈ es2.toList, x.key = .string s ∧ x.val = g) ∧ (∀ e ∈ es.toList, e.key ≠ .string s → ∃ x ∈ es2.toList, x.key = e.key ∧ x.val = e.val)

set_option maxHeartbeats 1000000 in
set_option maxRecDepth 100000 in
theorem holO_some (r : Nat) (ks : List ByteArray) (vs : List J) (s : ByteArray) (hsz : s.size ≤ mostLen) (hv : (J.obj ks vs).ok) (vp : Value) (w : World) (hsrc : ARep w (allB w) (.obj ks vs) (.iface 83 (.map (some r)))) (es0 : Array MapEntry) (clk0 : Nat) (hes0 : w.heap[r]? = some (.map es0 clk0)) (g0 : Value) (hlk : (Instr.lookup 83 (.map (some r)) (.string s) true).run Tryz.prog w = .ok (.tuple #[g0, .bool true]) w)
    (Q : World → Value → Prop) (hC : Calls Tryz.prog 186 #[g0, vp, .iface 141 (.agg #[]), .map ma] w fun e w' => ∃ g, e = .returned (.tuple #[g, .nilIface]) ∧ Below w.heap.size w w' ∧ Q w' g) :
    Calls Tryz.prog 235 #[.map (some r), .string s, vp, .iface 141 (.agg #[]), .map ma] w fun e w3 => ∃ w1 g es2 clk2, e = .returned (.tuple #[.iface 83 (.map (some w1.heap.size)), .nilIface]) ∧ Below w.heap.size w w1 ∧ Q w1 g ∧ PutAt w w1 es0 s g w3 es2 clk2 := by
  have HC := Lib.hid hC
  have hsrc' : SrcO w (some r) ks vs := .inr ⟨r, rfl, hsrc⟩
  have HS := Lib.hid hsrc'
  have HV := Lib.hid hv
  have HSZ := Lib.hid hsz
  have HES := Lib.hid hes0
  clear hC hsrc hsrc' hv hsz hes0
  go_enter Tryz.func235, Tryz.ntmps235
  go_upto_region 9 with (go_at_call 186; refine HC.out.mono ?_; rintro e w1 ⟨g, rfl, hb, hr⟩)
  obtain ⟨es, hes, hperm, hav⟩ := HS.out.es HV.out hb
  have hee : es = es0 := by
    rcases hes with ⟨h, _⟩ | ⟨r', clk', h, hh, _⟩
    · cases h
    · cases h
      have := hb.block r (Array.getElem?_eq_some_iff.1 HES.out).1
      rw [hh, HES.out] at this
      simp only [Option.some.injEq, Obj.map.injEq] at this
      exact this.1
  subst hee
  obtain ⟨n, hn, hlen⟩ := (HS.out.below hb).len HV.out
  have hwr : IntKind.i64.wrap ((n : Int) + 1) = n + 1 := by unfold lim at hn; rw [IntKind.wrap_i64]; omega
  have HCP := Lib.hid (copy_ok (some r) es w1 hes)
  have HPU := Lib.hid (fun (w2 : World) h => put_ok (w := w2) (b := w1.heap.size) (es := es) (TextMap_keys hes) h s HSZ.out g)
  have HF := Lib.hid (And.intro hb hr)
  clear hes hperm hav hb hr hn
  go_wp2_with (first | (go_at_call 296; refine (allocated_ok _ _ _).mono ?_; rintro e w1 ⟨rfl, rfl⟩) | (go_at_call 297; refine (makeObject_any _ _).mono ?_; rintro e w2 ⟨rfl, rfl⟩) | (go_at_call 183; refine HCP.out.mono ?_; rintro e w2 ⟨rfl, hg2, ho2⟩; obtain ⟨w3, es2, clk2, hrun, hg3, hh3, hst3, q1, q2, q3⟩ := HPU.out w2 ho2; have HQ : Hid (PutAt w w1 es s g w3 es2 clk2) := Lib.hid ⟨w2, hg2, hg3, hh3, hst3, q1, q2, q3⟩; clear ho2 hg2 hg3 hh3 hst3 q1 q2 q3))
  refine bodyPost_ret (v := .tuple #[.iface 83 (.map (some w1.heap.size)), .nilIface]) (by simp [results, Tryz.results235, go_sem]) rfl ?_
  exact ⟨w1, g, es2, clk2, rfl, HF.out.1, HF.out.2, HQ.out⟩

theorem PutAt.facts {w w1 w3 : World} {es es2 : Array MapEntry} {s : ByteArray} {g : Value} {clk0 clk2 : Nat} {r : Nat} {ks : List ByteArray} {vs : List J} (h : PutAt w w1 es s g w3 es2 clk2) (hb : Below w.heap.size w w1) (hm : MapHas w r es clk0 ks) (ha : AVals w (Old w.heap.size w) es ks vs) (hs : s ∈ ks) :
    Below w1.heap.size w1 w3 ∧ w1.heap.size < w3.heap.size ∧ MapHas w3 w1.heap.size es2 clk2 ks ∧ (∃ e0 ∈ es2.toList, e0.key = .string s ∧ e0.val = g) ∧
      ∀ e ∈ es2.toList, e.key ≠ .string s → ∃ k, e.key = .string k ∧ ARep w3 (Old w.heap.size w3) (getK ks vs k) e.val := by
  obtain ⟨w2, hg2, hg3, hh3, hst, q1, q2, q3⟩ := h
  have hsz2 := hg2.size
  simp only [size_alloc] at hsz2
  have hb13 : Below w1.heap.size w1 w3 := (((Below.refl _ w1).alloc (Nat.le_refl _) _).grown hg2 (by simp) (fun j hj => by cases hj; exact Nat.le_refl _)).grown hg3 (by omega) (fun j hj => by cases hj; exact Nat.le_refl _)
  have hb03 : Below w.heap.size w w3 := hb.trans (hb13.mono hb.size)
  refine ⟨hb13, (Array.getElem?_eq_some_iff.1 hh3).1, ⟨hh3, hst, ?_, hm.sz⟩, q2, fun e he hne => ?_⟩
  · refine (List.perm_ext_iff_of_nodup hst.2.2 (hm.perm.nodup_iff.1 hm.st.2.2)).2 fun v => ?_
    constructor
    · intro hv
      obtain ⟨x, hx, rfl⟩ := List.mem_map.1 hv
      rcases q1 x hx with ⟨hk, _⟩ | ⟨e, he, hk, _, _⟩
      · rw [hk]; exact List.mem_map.2 ⟨s, hs, rfl⟩
      · rw [← hk]; exact hm.perm.mem_iff.1 (List.mem_map.2 ⟨e, he, rfl⟩)
    · intro hv
      obtain ⟨k, hk, rfl⟩ := List.mem_map.1 hv
      by_cases hks : k = s
      · subst hks
        obtain ⟨x, hx, hxk, _⟩ := q2
        exact List.mem_map.2 ⟨x, hx, hxk⟩
      · obtain ⟨e, he, hek⟩ := hm.ent hk
        obtain ⟨x, hx, hxk, _⟩ := q3 e he (fun h => hks (by rw [hek] at h; simpa using h))
        exact List.mem_map.2 ⟨x, hx, hxk.trans hek⟩
  · rcases q1 e he with ⟨hk, _⟩ | ⟨x, hx, hk, hv, hn⟩
    · exact absurd hk hne
    · obtain ⟨k, _, hxk, hr, _⟩ := obj_ent hm.st.2.2 hm.perm ha x hx
      exact ⟨k, hk ▸ hxk, hv ▸ hr.old hb03.block⟩
end Go.Gj

/-
  gojq: update where a key is marked, by the path's length. (Printed by wip/gen_hup.py.)
-/
namespace Go.Gj
set_option linter.unusedSimpArgs false
set_option linter.unusedVariables false
set_option linter.unnecessarySimpa false
open Go Go.RowKit Go.Proofs

variable {ma : Option Nat}

theorem DelIs.tuple {w w' : World} {a : Option J} {e : Ending} (h : DelIs w a w' e) : ∃ r1 r2, e = .returned (.tuple #[r1, r2]) := by
  cases a with
  | none => obtain ⟨t, v, rfl, _⟩ := h; exact ⟨_, _, rfl⟩
  | some r => obtain ⟨g, M, rfl, _⟩ := h; exact ⟨_, _, rfl⟩

set_option maxHeartbeats 1000000 in
set_option maxRecDepth 100000 in
theorem hup_str_null (p : List J) (s : ByteArray) (w : World) (b o c : Nat) (gx : Value) (a : Option J)  (hc : p.length + 1 ≤ c) (hcap : c ≤ capMost) (hcell : w.cell? ⟨b, o, none⟩ = some (.iface 9 (.string s)))
    (HO : ∀ o' c', (o' = o + 1 ∨ p.length = 0) → p.length ≤ c' → c' ≤ capMost → Calls Tryz.prog 235 #[.map none, .string s, .slice (some ⟨b, o', none⟩) p.length c', gx, .map ma] w fun e w' => DelIs w a w' e) :
    Calls Tryz.prog 186 #[.nilIface, .slice (some ⟨b, o, none⟩) (p.length + 1) c, gx, .map ma] w fun e w' => DelIs w a w' e := by
  have HH1 : Hid (c = 1 → Calls Tryz.prog 235 #[.map none, .string s, .slice (some ⟨b, o, none⟩) p.length 0, gx, .map ma] w fun e w' => DelIs w a w' e) := Lib.hid fun h => HO o 0 (.inr (by omega)) (by omega) (Nat.zero_le _)
  have HH2 := Lib.hid (HO (o + 1) (c - 1) (.inl rfl) (by omega) (by omega))
  clear HO
  have h1 : (1 : Int) ≤ (p.length : Int) + 1 := by omega
  have h2 : ((p.length : Int) + 1) ≤ c := by omega
  go_enter Tryz.func186, Tryz.ntmps186
  go_wp2_with fail
  case inl =>
    have h := HH1.out (by omega)
    with_reducible refine h.mono ?_
    intro e w1 hu
    obtain ⟨r1, r2, rfl⟩ := hu.tuple
    go_wp2_with fail
    exact bodyPost_ret (v := .tuple #[r1, r2]) (by simp [results, Tryz.results186, go_sem]) rfl hu
  case inr =>
    with_reducible refine HH2.out.mono ?_
    intro e w1 hu
    obtain ⟨r1, r2, rfl⟩ := hu.tuple
    go_wp2_with fail
    exact bodyPost_ret (v := .tuple #[r1, r2]) (by simp [results, Tryz.results186, go_sem]) rfl hu

set_option maxHeartbeats 1000000 in
set_option maxRecDepth 100000 in
theorem hup_str_obj (p : List J) (s : ByteArray) (w : World) (b o c : Nat) (gx : Value) (a : Option J) (r : Nat) (hc : p.length + 1 ≤ c) (hcap : c ≤ capMost) (hcell : w.cell? ⟨b, o, none⟩ = some (.iface 9 (.string s)))
    (HO : ∀ o' c', (o' = o + 1 ∨ p.length = 0) → p.length ≤ c' → c' ≤ capMost → Calls Tryz.prog 235 #[.map (some r), .string s, .slice (some ⟨b, o', none⟩) p.length c', gx, .map ma] w fun e w' => DelIs w a w' e) :
    Calls Tryz.prog 186 #[.iface 83 (.map (some r)), .slice (some ⟨b, o, none⟩) (p.length + 1) c, gx, .map ma] w fun e w' => DelIs w a w' e := by
  have HH1 : Hid (c = 1 → Calls Tryz.prog 235 #[.map (some r), .string s, .slice (some ⟨b, o, none⟩) p.length 0, gx, .map ma] w fun e w' => DelIs w a w' e) := Lib.hid fun h => HO o 0 (.inr (by omega)) (by omega) (Nat.zero_le _)
  have HH2 := Lib.hid (HO (o + 1) (c - 1) (.inl rfl) (by omega) (by omega))
  clear HO
  have h1 : (1 : Int) ≤ (p.length : Int) + 1 := by omega
  have h2 : ((p.length : Int) + 1) ≤ c := by omega
  go_enter Tryz.func186, Tryz.ntmps186
  go_wp2_with fail
  case inl =>
    have h := HH1.out (by omega)
    with_reducible refine h.mono ?_
    intro e w1 hu
    obtain ⟨r1, r2, rfl⟩ := hu.tuple
    go_wp2_with fail
    exact bodyPost_ret (v := .tuple #[r1, r2]) (by simp [results, Tryz.results186, go_sem]) rfl hu
  case inr =>
    with_reducible refine HH2.out.mono ?_
    intro e w1 hu
    obtain ⟨r1, r2, rfl⟩ := hu.tuple
    go_wp2_with fail
    exact bodyPost_ret (v := .tuple #[r1, r2]) (by simp [results, Tryz.results186, go_sem]) rfl hu

set_option maxHeartbeats 1000000 in
set_option maxRecDepth 100000 in
theorem hup_num_null (p : List J) (i : Int) (w : World) (b o c : Nat) (gx : Value) (a : Option J)  (hc : p.length + 1 ≤ c) (hcap : c ≤ capMost) (hcell : w.cell? ⟨b, o, none⟩ = some (.iface 3 (.int .i64 i)))
    (HO : ∀ o' c', (o' = o + 1 ∨ p.length = 0) → p.length ≤ c' → c' ≤ capMost → Calls Tryz.prog 236 #[.slice none 0 0, .int .i64 i, .slice (some ⟨b, o', none⟩) p.length c', gx, .map ma] w fun e w' => DelIs w a w' e) :
    Calls Tryz.prog 186 #[.nilIface, .slice (some ⟨b, o, none⟩) (p.length + 1) c, gx, .map ma] w fun e w' => DelIs w a w' e := by
  have HH1 : Hid (c = 1 → Calls Tryz.prog 236 #[.slice none 0 0, .int .i64 i, .slice (some ⟨b, o, none⟩) p.length 0, gx, .map ma] w fun e w' => DelIs w a w' e) := Lib.hid fun h => HO o 0 (.inr (by omega)) (by omega) (Nat.zero_le _)
  have HH2 := Lib.hid (HO (o + 1) (c - 1) (.inl rfl) (by omega) (by omega))
  clear HO
  have h1 : (1 : Int) ≤ (p.length : Int) + 1 := by omega
  have h2 : ((p.length : Int) + 1) ≤ c := by omega
  go_enter Tryz.func186, Tryz.ntmps186
  go_wp2_with (go_at_call 102; refine (toInt_int _ _).mono ?_; rintro e w ⟨rfl, rfl⟩)
  case inl =>
    have h := HH1.out (by omega)
    with_reducible refine h.mono ?_
    intro e w1 hu
    obtain ⟨r1, r2, rfl⟩ := hu.tuple
    go_wp2_with fail
    exact bodyPost_ret (v := .tuple #[r1, r2]) (by simp [results, Tryz.results186, go_sem]) rfl hu
  case inr =>
    with_reducible refine HH2.out.mono ?_
    intro e w1 hu
    obtain ⟨r1, r2, rfl⟩ := hu.tuple
    go_wp2_with fail
    exact bodyPost_ret (v := .tuple #[r1, r2]) (by simp [results, Tryz.results186, go_sem]) rfl hu

set_option maxHeartbeats 1000000 in
set_option maxRecDepth 100000 in
theorem hup_num_arr (p : List J) (i : Int) (w : World) (b o c : Nat) (gx : Value) (a : Option J) (va : Value) (hc : p.length + 1 ≤ c) (hcap : c ≤ capMost) (hcell : w.cell? ⟨b, o, none⟩ = some (.iface 3 (.int .i64 i)))
    (HO : ∀ o' c', (o' = o + 1 ∨ p.length = 0) → p.length ≤ c' → c' ≤ capMost → Calls Tryz.prog 236 #[va, .int .i64 i, .slice (some ⟨b, o', none⟩) p.length c', gx, .map ma] w fun e w' => DelIs w a w' e) :
    Calls Tryz.prog 186 #[.iface 80 va, .slice (some ⟨b, o, none⟩) (p.length + 1) c, gx, .map ma] w fun e w' => DelIs w a w' e := by
  have HH1 : Hid (c = 1 → Calls Tryz.prog 236 #[va, .int .i64 i, .slice (some ⟨b, o, none⟩) p.length 0, gx, .map ma] w fun e w' => DelIs w a w' e) := Lib.hid fun h => HO o 0 (.inr (by omega)) (by omega) (Nat.zero_le _)
  have HH2 := Lib.hid (HO (o + 1) (c - 1) (.inl rfl) (by omega) (by omega))
  clear HO
  have h1 : (1 : Int) ≤ (p.length : Int) + 1 := by omega
  have h2 : ((p.length : Int) + 1) ≤ c := by omega
  go_enter Tryz.func186, Tryz.ntmps186
  go_wp2_with (go_at_call 102; refine (toInt_int _ _).mono ?_; rintro e w ⟨rfl, rfl⟩)
  case inl =>
    have h := HH1.out (by omega)
    with_reducible refine h.mono ?_
    intro e w1 hu
    obtain ⟨r1, r2, rfl⟩ := hu.tuple
    go_wp2_with fail
    exact bodyPost_ret (v := .tuple #[r1, r2]) (by simp [results, Tryz.results186, go_sem]) rfl hu
  case inr =>
    with_reducible refine HH2.out.mono ?_
    intro e w1 hu
    obtain ⟨r1, r2, rfl⟩ := hu.tuple
    go_wp2_with fail
    exact bodyPost_ret (v := .tuple #[r1, r2]) (by simp [results, Tryz.results186, go_sem]) rfl hu

set_option maxHeartbeats 1000000 in
set_option maxRecDepth 100000 in
theorem hup_err_obj (p : List J) (s : ByteArray) (w : World) (b o c : Nat) (gx : Value) (gt : TypeId) (gv : Value) (h83 : ∀ w', (Instr.typeAssert (.iface gt gv) 20 83 true).run Tryz.prog w' = .ok (.tuple #[.map none, .bool false]) w') (h141 : ∀ w', (Instr.typeAssert (.iface gt gv) 20 141 true).run Tryz.prog w' = .ok (.tuple #[.agg #[], .bool false]) w') (hcell : w.cell? ⟨b, o, none⟩ = some (.iface 9 (.string s))) :
    Calls Tryz.prog 186 #[.iface gt gv, .slice (some ⟨b, o, none⟩) (p.length + 1) c, gx, .map ma] w fun e w' => DelIs w none w' e := by
  have HB := Lib.hid (below1 w (.cells #[.iface gt gv] 108))
  have h1 : (1 : Int) ≤ (p.length : Int) + 1 := by omega
  go_enter Tryz.func186, Tryz.ntmps186
  go_wp2_with fail
  exact bodyPost_ret (v := .tuple #[.nilIface, .iface 106 (.pointer (some ⟨w.heap.size, 0, none⟩))]) (by simp [results, Tryz.results186, go_sem]) rfl ⟨_, _, rfl, HB.out⟩

set_option maxHeartbeats 1000000 in
set_option maxRecDepth 100000 in
theorem hup_err_arr (p : List J) (i : Int) (w : World) (b o c : Nat) (gx : Value) (gt : TypeId) (gv : Value) (h80 : ∀ w', (Instr.typeAssert (.iface gt gv) 20 80 true).run Tryz.prog w' = .ok (.tuple #[.slice none 0 0, .bool false]) w') (h141 : ∀ w', (Instr.typeAssert (.iface gt gv) 20 141 true).run Tryz.prog w' = .ok (.tuple #[.agg #[], .bool false]) w') (hcell : w.cell? ⟨b, o, none⟩ = some (.iface 3 (.int .i64 i))) :
    Calls Tryz.prog 186 #[.iface gt gv, .slice (some ⟨b, o, none⟩) (p.length + 1) c, gx, .map ma] w fun e w' => DelIs w none w' e := by
  have HB := Lib.hid (below1 w (.cells #[.iface gt gv] 115))
  have h1 : (1 : Int) ≤ (p.length : Int) + 1 := by omega
  go_enter Tryz.func186, Tryz.ntmps186
  go_wp2_with (go_at_call 102; refine (toInt_int _ _).mono ?_; rintro e w ⟨rfl, rfl⟩)
  exact bodyPost_ret (v := .tuple #[.nilIface, .iface 114 (.pointer (some ⟨w.heap.size, 0, none⟩))]) (by simp [results, Tryz.results186, go_sem]) rfl ⟨_, _, rfl, HB.out⟩

end Go.Gj

/-
  gojq: updateArrayIndex where a key is marked.
-/
namespace Go.Gj
set_option linter.unusedSimpArgs false
set_option linter.unusedVariables false
set_option linter.unnecessarySimpa false
open Go Go.RowKit Go.Proofs

variable {ma : Option Nat}

set_option maxRecDepth 100000 in
theorem makeArray_any (L C : Nat) (Li : Int) (hLi : Li = L) (hL : L ≤ capMost) (hC : C ≤ capMost) (w : World) : Calls Tryz.prog 298 #[.map ma, .int .i64 Li, .int .i64 C] w fun e w' => e = .returned (.slice (some ⟨w.heap.size, 0, none⟩) L (max L C)) ∧ w' = w.alloc (.cells (madeCells #[.nilIface] (max L C)) 20) := by
  subst hLi
  unfold capMost at hL hC
  obtain ⟨i0, hi, hz0, hz1, hz2⟩ := info_parts info20
  have hmk := run_make w 80 20 i0 .nilIface Tryz.underlying80 hi hz0 .i64 .i64 (L : Int) ((max L C : Nat) : Int) (by omega) (by omega) (by rw [hz2]; omega) (by omega)
  rw [hz1] at hmk
  simp only [Value.cells, Int.toNat_natCast, Nat.mul_one] at hmk
  have hmax : ∀ ats ty w', (Builtin.max_ ats ty #[.int .i64 L, .int .i64 C]).run Tryz.prog w' = .ok (.int .i64 ((max L C : Nat) : Int)) w' := fun ats ty w' => by
    by_cases h : L ≤ C
    · rw [Nat.max_eq_right h]
      by_cases h' : L = C
      · subst h'; simp [Builtin.max_, Builtin.max2]
      · have e : (C : Int) > L := by omega
        simp [Builtin.max_, Builtin.max2, e]
        try omega
    · rw [Nat.max_eq_left (by omega)]
      have e : ¬ (C : Int) > L := by omega
      simp [Builtin.max_, Builtin.max2, e]
      try omega
  go_enter Tryz.func298, Tryz.ntmps298
  go_wp2_with fail
  exact bodyPost_ret (v := .slice (some ⟨w.heap.size, 0, none⟩) L (max L C)) (by simp [results, Tryz.results298, go_sem]) rfl ⟨rfl, rfl⟩


set_option maxHeartbeats 1000000 in
set_option maxRecDepth 100000 in
theorem holL_nil (i : Nat) (hi : i ≤ 100) (vp : Value) (w : World) : Calls Tryz.prog 236 #[.slice none 0 0, .int .i64 i, vp, .iface 141 (.agg #[]), .map ma] w fun e w' => e = .returned (.tuple #[.nilIface, .nilIface]) ∧ w' = w := by
  have hq1 := hole_eq
  have hq2 := hole_eg
  have hq3 := eq80_nil
  have HCL := Lib.hid (clamp_ge i 0 (by omega) (by omega) w)
  go_enter Tryz.func236, Tryz.ntmps236
  go_wp2_with (go_at_call 154; refine HCL.out.mono ?_; rintro e w ⟨rfl, rfl⟩)
  exact bodyPost_ret (v := .tuple #[.nilIface, .nilIface]) (by simp [results, Tryz.results236, go_sem]) rfl ⟨rfl, rfl⟩

set_option maxHeartbeats 1000000 in
set_option maxRecDepth 100000 in
theorem holL_ge (i n c b o : Nat) (hi : i ≤ 100) (hge : n ≤ i) (vp : Value) (w : World) : Calls Tryz.prog 236 #[.slice (some ⟨b, o, none⟩) n c, .int .i64 i, vp, .iface 141 (.agg #[]), .map ma] w fun e w' => e = .returned (.tuple #[.iface 80 (.slice (some ⟨b, o, none⟩) n c), .nilIface]) ∧ w' = w := by
  have hq1 := hole_eq
  have hq2 := hole_eg
  have hq3 := eq80_some ⟨b, o, none⟩ n c
  have HCL := Lib.hid (clamp_ge i n (by omega) (by omega) w)
  have hd0 : decide ((n : Int) < 0) = false := decide_eq_false (by omega)
  have hd1 : decide ((n : Int) < n) = false := decide_eq_false (by omega)
  have hi0 : (0 : Int) ≤ i := by omega
  go_enter Tryz.func236, Tryz.ntmps236
  go_wp2_with (go_at_call 154; refine HCL.out.mono ?_; rintro e w ⟨rfl, rfl⟩)
  exact bodyPost_ret (v := .tuple #[.iface 80 (.slice (some ⟨b, o, none⟩) n c), .nilIface]) (by simp [results, Tryz.results236, go_sem]) rfl ⟨rfl, rfl⟩

set_option maxHeartbeats 1000000 in
set_option maxRecDepth 100000 in
theorem holL_err (i n c b o : Nat) (hi : i ≤ 100) (hlt : i < n) (hn : n ≤ capMost) (vp : Value) (w : World) (g0 : Value) (hg0 : w.cell? ⟨b, o + i, none⟩ = some g0)
    (hC : Calls Tryz.prog 186 #[g0, vp, .iface 141 (.agg #[]), .map ma] w fun e w' => ∃ t v, e = .returned (.tuple #[.nilIface, .iface t v]) ∧ Below w.heap.size w w') :
    Calls Tryz.prog 236 #[.slice (some ⟨b, o, none⟩) n c, .int .i64 i, vp, .iface 141 (.agg #[]), .map ma] w fun e w' => ∃ t v, e = .returned (.tuple #[.nilIface, .iface t v]) ∧ Below w.heap.size w w' := by
  unfold capMost at hn
  have HC2 := Lib.hid hC
  have HCL := Lib.hid (clamp_lt i n (by omega) (by omega) w)
  have hd0 : decide ((i : Int) < 0) = false := decide_eq_false (by omega)
  have hd1 : decide ((i : Int) < n) = true := decide_eq_true (by omega)
  have hi0 : (0 : Int) ≤ i := by omega
  have hil : (i : Int) < n := by omega
  clear hC
  go_enter Tryz.func236, Tryz.ntmps236
  go_wp2_with (first | (go_at_call 154; refine HCL.out.mono ?_; rintro e w ⟨rfl, rfl⟩) | (go_at_call 186; refine HC2.out.mono ?_; rintro e w1 ⟨t, v, rfl, hb⟩))
  exact bodyPost_ret (v := .tuple #[.nilIface, .iface t v]) (by simp [results, Tryz.results236, go_sem]) rfl ⟨t, v, rfl, hb⟩

/-- A list is copied into a new one. -/
theorem copy_listS (l : List J) (S : Nat → Prop) (b o c : Nat) (w : World) (hbl : b < w.heap.size) (hcs : ACells w S b l o) (w1 : World) (hb : Below w.heap.size w w1) (L C : Nat) (h1 : l.length ≤ L) (h2 : L ≤ C) :
    ∃ w3 n cs, (∀ ty, (Builtin.copy_ #[80, 80] ty #[.slice (some ⟨w1.heap.size, 0, none⟩) L C, .slice (some ⟨b, o, none⟩) l.length c]).run Tryz.prog (w1.alloc (.cells (madeCells #[.nilIface] C) 20)) = .ok (goInt n) w3) ∧
      w3.heap[w1.heap.size]? = some (.cells cs 20) ∧ cs.size = C ∧ (∀ j (hj : j < l.length), ∃ g, cs[j]? = some g ∧ ARep w S l[j] g) ∧ Below w1.heap.size w1 w3 ∧ w1.heap.size < w3.heap.size := by
  have hi : (Tryz.prog.info? 20).map (·.size) = some 1 := by kernel_rfl
  have hB : (w1.alloc (.cells (madeCells #[.nilIface] C) 20)).heap[w1.heap.size]? = some (.cells (madeCells #[.nilIface] C) 20 (0, 0)) := heap_alloc_new _ _
  have hbe : Below w1.heap.size w1 (w1.alloc (.cells (madeCells #[.nilIface] C) 20)) := below1 _ _
  obtain ⟨xs, hxl, hx⟩ := ACells.list l o hcs
  have hrun := fun ty => run_copy_row (P := Tryz.prog) (w1.alloc (.cells (madeCells #[.nilIface] C) 20)) 80 80 ty 20 w1.heap.size 0 L C ⟨b, o, none⟩ l.length c (madeCells #[.nilIface] C) 20 xs Tryz.underlying80 hi hB (by rw [hxl]; exact (Nat.min_eq_left h1).symm)
    (fun j v hj => by
      have hjl : j < l.length := by have := (List.getElem?_eq_some_iff.1 hj).1; omega
      obtain ⟨g, e1, e2, _⟩ := hx j hjl
      rw [addr_plus, World.cell?_of_block (a := ⟨b, o + j, none⟩) ((hbe.block b (Nat.lt_of_lt_of_le hbl hb.size)).trans (hb.block b hbl)), e2, ← e1, hj])
    (by rw [size_madeCells]; omega)
    (fun v hv => by
      obtain ⟨j, hj, e⟩ := List.getElem_of_mem hv
      obtain ⟨g, e1, _, e3⟩ := hx j (by omega)
      rw [List.getElem?_eq_getElem hj, e, Option.some.injEq] at e1
      rw [e1]; exact e3.one)
  refine ⟨_, _, _, hrun, setRow_heap _ _ _ _ _ _ hB, ?_, fun j hj => ?_, below_setRow hbe (Nat.le_refl _) _, ?_⟩
  · simp [toList_madeCells_one, hxl]; omega
  · obtain ⟨g, e1, _, e3⟩ := hx j hj
    refine ⟨g, ?_, e3⟩
    simp only [List.take_zero, List.nil_append, List.getElem?_toArray]
    rw [List.getElem?_append_left (by omega)]
    exact e1
  · simp [World.setRow]

/-- What a marked list is. -/
def ListAt (w w1 : World) (l : List J) (i : Nat) (g : Value) (w3 : World) (cs : Array Value) : Prop :=
  Below w1.heap.size w1 w3 ∧ w1.heap.size < w3.heap.size ∧ w3.heap[w1.heap.size]? = some (.cells cs 20) ∧ cs[i]? = some g ∧ ∀ j (hj : j < l.length), j ≠ i → ∃ g, cs[j]? = some g ∧ ARep w (Old w.heap.size w) l[j] g

set_option maxHeartbeats 1000000 in
set_option maxRecDepth 100000 in
theorem holL_some (l : List J) (i c b o : Nat) (hi : i ≤ 100) (hlt : i < l.length) (hc : l.length ≤ c ∧ c ≤ capMost) (vp : Value) (w : World) (hbl : b < w.heap.size) (hcs : ACells w (Old w.heap.size w) b l o) (g0 : Value) (hg0 : w.cell? ⟨b, o + i, none⟩ = some g0)
    (Q : World → Value → Prop) (hQ : ∀ w g, Q w g → g = .nilIface ∨ ∃ t v, g = .iface t v) (hC : Calls Tryz.prog 186 #[g0, vp, .iface 141 (.agg #[]), .map ma] w fun e w' => ∃ g, e = .returned (.tuple #[g, .nilIface]) ∧ Below w.heap.size w w' ∧ Q w' g) :
    Calls Tryz.prog 236 #[.slice (some ⟨b, o, none⟩) l.length c, .int .i64 i, vp, .iface 141 (.agg #[]), .map ma] w fun e w3 => ∃ w1 g cs, e = .returned (.tuple #[.iface 80 (.slice (some ⟨w1.heap.size, 0, none⟩) l.length c), .nilIface]) ∧ Below w.heap.size w w1 ∧ Q w1 g ∧ ListAt w w1 l i g w3 cs := by
  obtain ⟨hc1, hc2⟩ := hc
  have hll : l.length ≤ capMost := by omega
  have HC2 := Lib.hid hC
  have HS := Lib.hid hcs
  have HBL := Lib.hid hbl
  have hcap : c ≤ 1073741824 := hc2
  have HCL := Lib.hid (clamp_lt i l.length (by omega) (by omega) w)
  have hd0 : decide ((i : Int) < 0) = false := decide_eq_false (by omega)
  have hd1 : decide ((i : Int) < l.length) = true := decide_eq_true (by omega)
  have hd2 : decide ((i : Int) ≥ l.length) = false := decide_eq_false (by omega)
  have hd3 : decide ((l.length : Int) ≤ i) = false := decide_eq_false (by omega)
  have hi0 : (0 : Int) ≤ i := by omega
  have hil : (i : Int) < l.length := by omega
  have hmx : max l.length c = c := Nat.max_eq_right hc1
  clear hC hcs hbl
  go_enter Tryz.func236, Tryz.ntmps236
  go_upto_region 21 with (first | (go_at_call 154; refine HCL.out.mono ?_; rintro e w ⟨rfl, rfl⟩) | (go_at_call 186; refine HC2.out.mono ?_; rintro e w1 ⟨g, rfl, hb, hr⟩))
  rcases hQ w1 g hr with rfl | ⟨gt, gv, rfl⟩
  all_goals
    obtain ⟨w3, n, cs, hrun, k1, k2, k3, k5, k6⟩ := copy_listS l _ b o c w HBL.out HS.out w1 hb l.length c (Nat.le_refl _) hc1
    have hcell : ∃ z, w3.cell? ⟨w1.heap.size, i, none⟩ = some z := ⟨cs[i]'(by omega), by simp [World.cell?, k1]⟩
    obtain ⟨z, hz⟩ := hcell
    have hfz : w3.frozen? ⟨w1.heap.size, i, none⟩ = false := by simp [World.frozen?, k1]
    have HQ : ∀ g, Hid (ListAt w w1 l i g (w3.setCell ⟨w1.heap.size, i, none⟩ g) (cs.setIfInBounds i g)) := fun g => Lib.hid ⟨k5.trans ⟨rfl, rfl, rfl, by simp [World.setCell], fun k hk => Below.heap_setCell _ _ _ _ (by show k ≠ w1.heap.size; have := k5.size; omega)⟩, by simp [World.setCell]; exact k6, by simp [World.setCell, Array.getElem?_modify, k1], by rw [Array.getElem?_setIfInBounds_self_of_lt (by omega)], fun j hj hne => by rw [Array.getElem?_setIfInBounds_ne (by omega)]; exact k3 j hj⟩
    have HMA := Lib.hid (makeArray_any (ma := ma) l.length c l.length rfl hll hc2 w1)
    have HBR := Lib.hid (And.intro hb hr)
    rw [hmx] at HMA
    clear k1 k2 k3 k5 k6 hb hr
    go_wp2_with (first | (go_at_call 296; refine (allocated_ok _ _ _).mono ?_; rintro e w1 ⟨rfl, rfl⟩) | (go_at_call 298; refine HMA.out.mono ?_; rintro e w2 ⟨rfl, rfl⟩))
    exact bodyPost_ret (v := .tuple #[.iface 80 (.slice (some ⟨w1.heap.size, 0, none⟩) l.length c), .nilIface]) (by simp [results, Tryz.results236, go_sem]) rfl ⟨w1, _, _, rfl, HBR.out.1, HBR.out.2, (HQ _).out⟩
end Go.Gj

/-
  gojq: update where a key is marked; delpaths, ZzDelPaths.
-/
namespace Go.Gj
set_option linter.unusedSimpArgs false
set_option linter.unusedVariables false
set_option linter.unnecessarySimpa false
open Go Go.RowKit Go.Proofs

variable {ma : Option Nat}

def UpDelOk (ma : Option Nat) (q : List J) : Prop := ∀ (v : J) (w : World) (gv vp : Value), v.ok → ARep w (Old w.heap.size w) v gv → PSl w q vp →
  Calls Tryz.prog 186 #[gv, vp, .iface 141 (.agg #[]), .map ma] w fun e w' => DelIs w (delJ v q) w' e

set_option maxRecDepth 100000 in
theorem hol_base (gv : Value) (a : Option Addr) (c : Nat) (w : World) : Calls Tryz.prog 186 #[gv, .slice a 0 c, .iface 141 (.agg #[]), .map ma] w fun e w' => e = .returned (.tuple #[.iface 141 (.agg #[]), .nilIface]) ∧ w' = w := by
  go_enter Tryz.func186, Tryz.ntmps186
  go_wp2_with fail
  exact bodyPost_ret (v := .tuple #[.iface 141 (.agg #[]), .nilIface]) (by simp [results, Tryz.results186, go_sem]) rfl ⟨rfl, rfl⟩

theorem ARep.allOld {w : World} {x : J} {g : Value} (h : ARep w (Old w.heap.size w) x g) : ARep w (allB w) x g := h.mono fun b hb => hb.2.1

theorem obj_hol (q : List J) (ih : q = [] ∨ (q ≠ [] ∧ UpDelOk ma q)) (r : Nat) (ks : List ByteArray) (vs : List J) (s : ByteArray) (hsz : s.size ≤ mostLen) (hv : (J.obj ks vs).ok) (w : World) (vp : Value) (hgv : ARep w (Old w.heap.size w) (.obj ks vs) (.iface 83 (.map (some r)))) (hp : PSl w q vp) :
    Calls Tryz.prog 235 #[.map (some r), .string s, vp, .iface 141 (.agg #[]), .map ma] w fun e w' => DelIs w (delJ (.obj ks vs) (.str s :: q)) w' e := by
  have hall := hgv.allOld
  have hgv0 := hgv
  obtain ⟨r', es, clk, he, hr, hh, hst, hperm, hksz, ha⟩ := hgv
  obtain rfl : r' = r := by simpa using he.symm
  have hm : MapHas w r' es clk ks := ⟨hh, hst, hperm, hksz⟩
  obtain ⟨g0, b0, hb0, hlk, hg0⟩ := obj_lookup hh hperm hv.2.2.1 hv.1 ha s true
  have hlk := hlk w hh
  by_cases hs : s ∈ ks
  · obtain rfl : b0 = true := hb0.2 hs
    rcases ih with rfl | ⟨hne, ih⟩
    · obtain ⟨a, c, rfl, _⟩ := hp
      refine (holO_some r' ks vs s hsz hv _ w hall es clk hh g0 hlk (fun _ g => g = .iface 141 (.agg #[])) ((hol_base g0 a c w).mono ?_)).mono ?_
      · rintro e w1 ⟨rfl, rfl⟩
        exact ⟨_, rfl, Below.refl _ _, rfl⟩
      · rintro e w3 ⟨w1, g, es2, clk2, rfl, hb, rfl, hput⟩
        obtain ⟨q1, q2, q3, ⟨e0, he0, hk0, hv0⟩, q4⟩ := hput.facts hb hm ha hs
        exact ⟨_, _, rfl, hb.trans (q1.mono hb.size), q2, .key e0 hb.size q3 hv.1 hv.2.2.1 he0 hk0 hv0 q4⟩
    · obtain ⟨k2, q2, rfl⟩ : ∃ k2 q2, q = k2 :: q2 := by cases q with | nil => exact absurd rfl hne | cons a b => exact ⟨a, b, rfl⟩
      have hd : delJ (.obj ks vs) (.str s :: k2 :: q2) = (delJ (getK ks vs s) (k2 :: q2)).map fun u => .obj (putK ks vs s u).1 (putK ks vs s u).2 := by
        simp only [delJ, (hasKey_iff ks s).2 hs, if_true]
      have hgk : (getK ks vs s).ok := by
        have := (oks_iff vs).1 hv.2.2.2.2
        obtain ⟨i, hi, rfl⟩ := List.getElem_of_mem hs
        rw [getK_at ks vs (rises_nodup hv.2.2.1) i hi (by have := hv.1; omega)]
        exact this _ (List.getElem_mem _)
      have hC := ih (getK ks vs s) w g0 vp hgk hg0 hp
      rw [hd]
      cases hdel : delJ (getK ks vs s) (k2 :: q2) with
      | none =>
        rw [hdel] at hC
        exact holO_err r' s vp w g0 hlk hC
      | some u =>
        rw [hdel] at hC
        refine (holO_some r' ks vs s hsz hv _ w hall es clk hh g0 hlk (fun w1 g => ∃ M, M ≤ w1.heap.size ∧ Hol w1 w.heap.size M u g) (hC.mono ?_)).mono ?_
        · rintro e w1 ⟨g, M, rfl, hb, hM, hH⟩
          exact ⟨_, rfl, hb, M, hM, hH⟩
        · rintro e w3 ⟨w1, g, es2, clk2, rfl, hb, ⟨M, hM, hH⟩, hput⟩
          obtain ⟨q1, q2, q3, ⟨e0, he0, hk0, rfl⟩, q4⟩ := hput.facts hb hm ha hs
          exact ⟨_, _, rfl, hb.trans (q1.mono hb.size), q2, .sub e0 hH.le hM q3 hv.1 hv.2.2.1 he0 hk0 (hH.keep fun b hb => q1.block b (by omega)) q4⟩
  · obtain rfl : b0 = false := by cases b0 with | false => rfl | true => exact absurd (hb0.1 rfl) hs
    rw [getK_none ks vs s hs] at hg0
    obtain rfl : g0 = .nilIface := hg0
    have hd : delJ (.obj ks vs) (.str s :: q) = some (.obj ks vs) := by
      cases q with
      | nil => simp only [delJ, delK_none ks vs s hv.1 hs]
      | cons k2 q2 =>
        have : hasKey ks s = false := by cases h : hasKey ks s with | false => rfl | true => exact absurd ((hasKey_iff ks s).1 h) hs
        simp only [delJ, this]
        rfl
    rw [hd]
    refine (holO_absent r' s vp w hlk).mono ?_
    rintro e w' ⟨rfl, rfl⟩
    exact ⟨_, _, rfl, Below.refl _ _, Nat.le_refl _, .none hgv0⟩

theorem arr_hol (q : List J) (ih : UpDelOk ma q) (hq : q ≠ []) (h : Int) (l : List J) (i : Nat) (hi : i ≤ 100) (hih : (h / 2).toNat = i) (b o c : Nat) (hv : (J.arr l).ok) (w : World) (vp : Value) (hgv : ARep w (Old w.heap.size w) (.arr l) (.iface 80 (.slice (some ⟨b, o, none⟩) l.length c))) (hp : PSl w q vp) :
    Calls Tryz.prog 236 #[.slice (some ⟨b, o, none⟩) l.length c, .int .i64 i, vp, .iface 141 (.agg #[]), .map ma] w fun e w' => DelIs w (delJ (.arr l) (.num h :: q)) w' e := by
  have hgv0 := hgv
  obtain ⟨b', o', c', he, hc, hb, hcs⟩ := hgv
  obtain ⟨⟨rfl, rfl⟩, rfl⟩ : (b = b' ∧ o = o') ∧ c = c' := by simpa using he
  obtain ⟨k2, q2, rfl⟩ : ∃ k2 q2, q = k2 :: q2 := by cases q with | nil => exact absurd rfl hq | cons a b => exact ⟨a, b, rfl⟩
  by_cases hlt : i < l.length
  · obtain ⟨g0, hg0, hr0⟩ := ACells.at l o i hlt hcs
    have hgd : l.getD i .null = l[i] := by rw [List.getD_eq_getElem?_getD, List.getElem?_eq_getElem hlt]; rfl
    have hoks := (oks_iff l).1 hv.2
    have hd : delJ (.arr l) (.num h :: k2 :: q2) = (delJ l[i] (k2 :: q2)).map fun u => .arr (l.set i u) := by
      simp only [delJ, hih, if_pos hlt, hgd]
    rw [hd]
    have hC := ih l[i] w g0 vp (hoks _ (List.getElem_mem _)) hr0 hp
    cases hdel : delJ l[i] (k2 :: q2) with
    | none =>
      rw [hdel] at hC
      exact holL_err i l.length c b o hi hlt (by omega) vp w g0 hg0 hC
    | some u =>
      rw [hdel] at hC
      refine (holL_some l i c b o hi hlt hc vp w hb.1 hcs g0 hg0 (fun w1 g => ∃ M, M ≤ w1.heap.size ∧ Hol w1 w.heap.size M u g) (fun _ _ ⟨_, _, h⟩ => h.shape) (hC.mono ?_)).mono ?_
      · rintro e w1 ⟨g, M, rfl, hb, hM, hH⟩
        exact ⟨_, rfl, hb, M, hM, hH⟩
      · rintro e w3 ⟨w1, g, cs, rfl, hb1, ⟨M, hM, hH⟩, q1, q2, q3, q4, q5⟩
        have hb3 := hb1.trans (q1.mono hb1.size)
        refine ⟨_, _, rfl, hb3, q2, .arr hH.le hM q3 hc hlt q4 (hH.keep fun b hb => q1.block b (by omega)) fun j hj hne => ?_⟩
        obtain ⟨g', h1, h2⟩ := q5 j hj hne
        exact ⟨g', h1, h2.old hb3.block⟩
  · have hd : delJ (.arr l) (.num h :: k2 :: q2) = some (.arr l) := by
      simp only [delJ, hih, if_neg hlt]
    rw [hd]
    refine (holL_ge i l.length c b o hi (by omega) vp w).mono ?_
    rintro e w' ⟨rfl, rfl⟩
    exact ⟨_, _, rfl, Below.refl _ _, Nat.le_refl _, .none hgv0⟩

set_option maxRecDepth 10000 in
theorem upd_hol : ∀ q : List J, (∀ k ∈ q, keyOk k) → keyedJ q → UpDelOk ma q
  | [], _, h => by simp [keyedJ] at h
  | k :: p, hk, hkey => by
    intro v w gv vp hv hgv hp
    have hk0 := hk k List.mem_cons_self
    have ih : p = [] ∨ (p ≠ [] ∧ UpDelOk ma p) := by
      cases p with
      | nil => exact .inl rfl
      | cons k2 p2 => exact .inr ⟨by simp, upd_hol (k2 :: p2) (fun y hy => hk y (List.mem_cons_of_mem _ hy)) (keyed_tail hkey)⟩
    obtain ⟨a, c, rfl, hc, hcap, hor⟩ := hp
    obtain ⟨b, o, rfl, hb, ⟨gk, hcell, hrk⟩, hrest⟩ := hor.resolve_left (by simp)
    have hPS : ∀ o' c', (o' = o + 1 ∨ p.length = 0) → p.length ≤ c' → c' ≤ capMost → PSl w p (.slice (some ⟨b, o', none⟩) p.length c') := fun o' c' h1 h2 h3 => by
      refine ⟨_, c', rfl, h2, h3, ?_⟩
      rcases h1 with rfl | h
      · exact .inr ⟨b, _, rfl, hb, hrest⟩
      · exact .inl (List.eq_nil_of_length_eq_zero h)
    show Calls Tryz.prog 186 #[gv, .slice (some ⟨b, o, none⟩) (p.length + 1) c, .iface 141 (.agg #[]), .map ma] w _
    have hc' : p.length + 1 ≤ c := hc
    cases k with
    | str s =>
      obtain ⟨rfl, hsz⟩ := hrk
      have herr : ∀ gt gv, delJ v (.str s :: p) = none → (∀ w', (Instr.typeAssert (.iface gt gv) 20 83 true).run Tryz.prog w' = .ok (.tuple #[.map none, .bool false]) w') → (∀ w', (Instr.typeAssert (.iface gt gv) 20 141 true).run Tryz.prog w' = .ok (.tuple #[.agg #[], .bool false]) w') →
          Calls Tryz.prog 186 #[.iface gt gv, .slice (some ⟨b, o, none⟩) (p.length + 1) c, .iface 141 (.agg #[]), .map ma] w fun e w' => DelIs w (delJ v (.str s :: p)) w' e := fun gt gv hd h1 h2 => by
        rw [hd]
        exact hup_err_obj p s w b o c _ gt gv h1 h2 hcell
      cases v with
      | null =>
        obtain rfl : gv = .nilIface := hgv
        refine hup_str_null p s w b o c _ _ hc' hcap hcell fun o' c' h1 h2 h3 => (holO_nil s _ w).mono ?_
        rintro e w' ⟨rfl, rfl⟩
        exact ⟨_, _, rfl, Below.refl _ _, Nat.le_refl _, .none rfl⟩
      | bool y => obtain rfl : gv = .iface 4 (.bool y) := hgv; exact herr _ _ rfl (fun w' => as_4_83 _ w') (fun w' => as_4_141 _ w')
      | num n =>
        rcases hgv with ⟨_, _, _, rfl⟩ | ⟨_, _, rfl⟩
        · exact herr _ _ rfl (fun w' => as_3_83 _ w') (fun w' => as_3_141 _ w')
        · exact herr _ _ rfl (fun w' => as_79_83 _ w') (fun w' => as_79_141 _ w')
      | str t => obtain rfl : gv = .iface 9 (.string t) := hgv.1; exact herr _ _ rfl (fun w' => as_9_83 _ w') (fun w' => as_9_141 _ w')
      | arr l => obtain ⟨b', o', c', rfl, _⟩ := hgv; exact herr _ _ (by cases p <;> rfl) (fun w' => as_80_83 _ w') (fun w' => as_80_141 _ w')
      | obj ks vs =>
        have hgv' := hgv
        obtain ⟨r, es, clk, rfl, _⟩ := hgv
        exact hup_str_obj p s w b o c _ _ r hc' hcap hcell fun o' c' h1 h2 h3 => obj_hol p ih r ks vs s hsz hv w _ hgv' (hPS o' c' h1 h2 h3)
    | num h =>
      have hpne : p ≠ [] := by rintro rfl; exact keyed_num hkey
      have ih' : UpDelOk ma p := (ih.resolve_left hpne).2
      obtain ⟨h1, h2, h3⟩ := hk0
      obtain rfl : gk = .iface 3 (.int .i64 (h / 2)) := by
        rcases hrk with ⟨_, _, _, rfl⟩ | ⟨h', _⟩
        · rfl
        · omega
      obtain ⟨n, hn⟩ : ∃ n : Nat, h / 2 = n := ⟨(h / 2).toNat, by omega⟩
      have hnt : (h / 2).toNat = n := by omega
      have hn100 : n ≤ 100 := by omega
      rw [hn] at hcell
      have herr : ∀ gt gv, delJ v (.num h :: p) = none → (∀ w', (Instr.typeAssert (.iface gt gv) 20 80 true).run Tryz.prog w' = .ok (.tuple #[.slice none 0 0, .bool false]) w') → (∀ w', (Instr.typeAssert (.iface gt gv) 20 141 true).run Tryz.prog w' = .ok (.tuple #[.agg #[], .bool false]) w') →
          Calls Tryz.prog 186 #[.iface gt gv, .slice (some ⟨b, o, none⟩) (p.length + 1) c, .iface 141 (.agg #[]), .map ma] w fun e w' => DelIs w (delJ v (.num h :: p)) w' e := fun gt gv hd h1 h2 => by
        rw [hd]
        exact hup_err_arr p n w b o c _ gt gv h1 h2 hcell
      cases v with
      | null =>
        obtain rfl : gv = .nilIface := hgv
        refine hup_num_null p n w b o c _ _ hc' hcap hcell fun o' c' h1 h2 h3 => (holL_nil n hn100 _ w).mono ?_
        rintro e w' ⟨rfl, rfl⟩
        exact ⟨_, _, rfl, Below.refl _ _, Nat.le_refl _, .none rfl⟩
      | bool y => obtain rfl : gv = .iface 4 (.bool y) := hgv; exact herr _ _ (by cases p <;> rfl) (fun w' => as_4_80 _ w') (fun w' => as_4_141 _ w')
      | num m =>
        rcases hgv with ⟨_, _, _, rfl⟩ | ⟨_, _, rfl⟩
        · exact herr _ _ (by cases p <;> rfl) (fun w' => as_3_80 _ w') (fun w' => as_3_141 _ w')
        · exact herr _ _ (by cases p <;> rfl) (fun w' => as_79_80 _ w') (fun w' => as_79_141 _ w')
      | str t => obtain rfl : gv = .iface 9 (.string t) := hgv.1; exact herr _ _ (by cases p <;> rfl) (fun w' => as_9_80 _ w') (fun w' => as_9_141 _ w')
      | obj ks vs => obtain ⟨r, es, clk, rfl, _⟩ := hgv; exact herr _ _ (by cases p <;> simp [delJ]) (fun w' => as_83_80 _ w') (fun w' => as_83_141 _ w')
      | arr l =>
        have hgv' := hgv
        obtain ⟨b', o', c', rfl, hcc, hb', hcs⟩ := hgv
        refine hup_num_arr p n w b o c _ _ _ hc' hcap hcell fun o2 c2 k1 k2 k3 => ?_
        have hq := arr_hol p ih' hpne h l n hn100 hnt b' o' c' hv w (.slice (some ⟨b, o2, none⟩) p.length c2) hgv' (hPS o2 c2 k1 k2 k3)
        exact hq
    | _ => exact hk0.elim
#print axioms upd_hol
end Go.Gj
