/-
  DERIVED. MADE BY PROGRAM (lay-iter.mjs) off ytnlndpgbhmkanaagreatdoor.cut.gsa: THE SHELF's CONTRACTS ON 'slices.Sorted(maps.Keys(m))' LAID AT THIS DUMP: 1 map type. NO WALK OF THE LIBRARY's TEXT: each is one application of a contract over any P and ρ (Derived/Shelf/SlIter/, Derived/Shelf/SortM/).
-/
import Derived.Shelf.SlIter.Nil
import Derived.Shelf.SortM.Plain
import Derived.Shelf.SortM.SortNone
import Derived.Ground.GgzProg
import Derived.Ground.SlgmProg
import Derived.Test.YtnlndpgbhmkanaaGreatDoorProg
import Derived.Test.YtnlndpgbhmkanaaGreatDoorWFromL
namespace Go.Proofs
set_option linter.unusedSimpArgs false
set_option linter.unusedVariables false
set_option linter.unnecessarySimpa false
open Go.RowKit Go.Maps Go.Sort Go.Shelf

-- maps.Keys[map[string]any,string,any] (function 149; its iterator 198) · slices.Sorted[string] (148) · slices.Sort[[]string,string] (197) · the map's type 83, the keys' 9
def Tryz.keys149_ren : Go.Shelf.Ren := ⟨fun | 7 => 149 | 10 => 198 | n => n, fun | 23 => 83 | 26 => 9 | 3 => 20 | 28 => 191 | 0 => 0 | 27 => 190 | 33 => 53 | 4 => 4 | n => n, fun | n => n⟩
theorem Tryz.keys149 : Go.Proofs.SlLaysZ.n7 Tryz.prog Tryz.keys149_ren := {
  mixed := by kernel_rfl
  f7 := ⟨Tryz.f149.name, by decide, Tryz.func149.trans (congrArg some (by kernel_rfl))⟩
  f10 := ⟨Tryz.f198.name, by decide, Tryz.func198.trans (congrArg some (by kernel_rfl))⟩
  t0 := Tryz.underlying0
  a0 := Tryz.isAgg0
  z0 := Tryz.sizeOf0
  v0 := Tryz.zeroValue0
  t4 := Tryz.underlying4
  a4 := Tryz.isAgg4
  z4 := Tryz.sizeOf4
  v4 := Tryz.zeroValue4
  t23 := Tryz.underlying83
  a23 := Tryz.isAgg83
  z23 := Tryz.sizeOf83
  v23 := Tryz.zeroValue83
  t26 := Tryz.underlying9
  a26 := Tryz.isAgg9
  z26 := Tryz.sizeOf9
  v26 := Tryz.zeroValue9
  t27 := Tryz.underlying190
  a27 := Tryz.isAgg190
  z27 := Tryz.sizeOf190
  v27 := Tryz.zeroValue190
  t28 := Tryz.underlying191
  a28 := Tryz.isAgg191
  z28 := Tryz.sizeOf191
  v28 := Tryz.zeroValue191
  t33 := Tryz.underlying53
  a33 := Tryz.isAgg53
  z33 := Tryz.sizeOf53
  v33 := Tryz.zeroValue53 }
def Tryz.sorted148_ren : Go.Shelf.Ren := ⟨fun | 6 => 148 | 8 => 196 | 9 => 197 | 11 => 257 | 13 => 259 | 12 => 258 | 23 => 313 | 24 => 314 | 14 => 304 | 15 => 305 | 16 => 306 | 17 => 307 | 18 => 308 | 19 => 309 | 20 => 310 | 21 => 311 | 22 => 312 | 25 => 330 | 26 => 331 | 27 => 332 | 28 => 333 | 29 => 334 | 30 => 214 | 31 => 356 | n => n, fun | 26 => 9 | 28 => 191 | 24 => 24 | 0 => 0 | 3 => 3 | 37 => 73 | 48 => 275 | 50 => 94 | 4 => 4 | 40 => 348 | 39 => 347 | 45 => 54 | 5 => 5 | 9 => 9 | 51 => 365 | 55 => 368 | 57 => 388 | 58 => 389 | 33 => 53 | n => n, fun | n => n⟩
theorem Tryz.sorted148 : Go.Proofs.SlLaysZ.n6 Tryz.prog Tryz.sorted148_ren := {
  mixed := by kernel_rfl
  f6 := ⟨Tryz.f148.name, by decide, Tryz.func148.trans (congrArg some (by kernel_rfl))⟩
  f8 := ⟨Tryz.f196.name, by decide, Tryz.func196.trans (congrArg some (by kernel_rfl))⟩
  f11 := ⟨Tryz.f257.name, by decide, Tryz.func257.trans (congrArg some (by kernel_rfl))⟩
  t0 := Tryz.underlying0
  a0 := Tryz.isAgg0
  z0 := Tryz.sizeOf0
  v0 := Tryz.zeroValue0
  t24 := Tryz.underlying24
  a24 := Tryz.isAgg24
  z24 := Tryz.sizeOf24
  v24 := Tryz.zeroValue24
  t26 := Tryz.underlying9
  a26 := Tryz.isAgg9
  z26 := Tryz.sizeOf9
  v26 := Tryz.zeroValue9
  t28 := Tryz.underlying191
  a28 := Tryz.isAgg191
  z28 := Tryz.sizeOf191
  v28 := Tryz.zeroValue191
  i26 := by kernel_rfl }
def Tryz.sort197_ren : Go.Shelf.Ren := ⟨fun | 6 => 197 | 8 => 259 | 9 => 258 | 19 => 313 | 20 => 314 | 21 => 304 | 22 => 305 | 23 => 306 | 24 => 307 | 25 => 308 | 26 => 309 | 27 => 310 | 28 => 311 | 29 => 312 | 36 => 330 | 31 => 331 | 32 => 332 | 37 => 333 | 38 => 334 | 39 => 214 | 41 => 356 | n => n, fun | 27 => 24 | 29 => 9 | 3 => 3 | 32 => 73 | 26 => 24 | 0 => 0 | 44 => 275 | 46 => 94 | 4 => 4 | 36 => 348 | 35 => 347 | 41 => 54 | 5 => 5 | 9 => 9 | 53 => 365 | 57 => 368 | 63 => 388 | 64 => 389 | n => n, fun | n => n⟩
theorem Tryz.sort197 : Go.Proofs.SlLaysM.n6 Tryz.prog Tryz.sort197_ren := {
  mixed := by kernel_rfl
  f6 := ⟨Tryz.f197.name, by decide, Tryz.func197.trans (congrArg some (by kernel_rfl))⟩
  f8 := Tryz.func259.trans (congrArg some (by kernel_rfl))
  f9 := ⟨Tryz.f258.name, by decide, Tryz.func258.trans (congrArg some (by kernel_rfl))⟩
  f19 := Tryz.func313.trans (congrArg some (by kernel_rfl))
  f20 := Tryz.func314.trans (congrArg some (by kernel_rfl))
  f21 := ⟨Tryz.f304.name, by decide, Tryz.func304.trans (congrArg some (by kernel_rfl))⟩
  f22 := ⟨Tryz.f305.name, by decide, Tryz.func305.trans (congrArg some (by kernel_rfl))⟩
  f23 := ⟨Tryz.f306.name, by decide, Tryz.func306.trans (congrArg some (by kernel_rfl))⟩
  f24 := ⟨Tryz.f307.name, by decide, Tryz.func307.trans (congrArg some (by kernel_rfl))⟩
  f25 := ⟨Tryz.f308.name, by decide, Tryz.func308.trans (congrArg some (by kernel_rfl))⟩
  f26 := ⟨Tryz.f309.name, by decide, Tryz.func309.trans (congrArg some (by kernel_rfl))⟩
  f27 := ⟨Tryz.f310.name, by decide, Tryz.func310.trans (congrArg some (by kernel_rfl))⟩
  f28 := ⟨Tryz.f311.name, by decide, Tryz.func311.trans (congrArg some (by kernel_rfl))⟩
  f29 := ⟨Tryz.f312.name, by decide, Tryz.func312.trans (congrArg some (by kernel_rfl))⟩
  f31 := Tryz.func331.trans (congrArg some (by kernel_rfl))
  f32 := Tryz.func332.trans (congrArg some (by kernel_rfl))
  f36 := ⟨Tryz.f330.name, by decide, Tryz.func330.trans (congrArg some (by kernel_rfl))⟩
  f37 := ⟨Tryz.f333.name, by decide, Tryz.func333.trans (congrArg some (by kernel_rfl))⟩
  f38 := ⟨Tryz.f334.name, by decide, Tryz.func334.trans (congrArg some (by kernel_rfl))⟩
  f39 := ⟨Tryz.f214.name, by decide, Tryz.func214.trans (congrArg some (by kernel_rfl))⟩
  f41 := ⟨Tryz.f356.name, by decide, Tryz.func356.trans (congrArg some (by kernel_rfl))⟩
  t0 := Tryz.underlying0
  a0 := Tryz.isAgg0
  z0 := Tryz.sizeOf0
  v0 := Tryz.zeroValue0
  t3 := Tryz.underlying3
  a3 := Tryz.isAgg3
  z3 := Tryz.sizeOf3
  v3 := Tryz.zeroValue3
  t4 := Tryz.underlying4
  a4 := Tryz.isAgg4
  z4 := Tryz.sizeOf4
  v4 := Tryz.zeroValue4
  t5 := Tryz.underlying5
  a5 := Tryz.isAgg5
  z5 := Tryz.sizeOf5
  v5 := Tryz.zeroValue5
  t9 := Tryz.underlying9
  a9 := Tryz.isAgg9
  z9 := Tryz.sizeOf9
  v9 := Tryz.zeroValue9
  t26 := Tryz.underlying24
  a26 := Tryz.isAgg24
  z26 := Tryz.sizeOf24
  v26 := Tryz.zeroValue24
  t27 := Tryz.underlying24
  a27 := Tryz.isAgg24
  z27 := Tryz.sizeOf24
  v27 := Tryz.zeroValue24
  t29 := Tryz.underlying9
  a29 := Tryz.isAgg9
  z29 := Tryz.sizeOf9
  v29 := Tryz.zeroValue9
  t32 := Tryz.underlying73
  a32 := Tryz.isAgg73
  z32 := Tryz.sizeOf73
  v32 := Tryz.zeroValue73
  t35 := Tryz.underlying347
  a35 := Tryz.isAgg347
  z35 := Tryz.sizeOf347
  v35 := Tryz.zeroValue347
  t36 := Tryz.underlying348
  a36 := Tryz.isAgg348
  z36 := Tryz.sizeOf348
  v36 := Tryz.zeroValue348
  t41 := Tryz.underlying54
  a41 := Tryz.isAgg54
  z41 := Tryz.sizeOf54
  v41 := Tryz.zeroValue54
  t44 := Tryz.underlying275
  a44 := Tryz.isAgg275
  z44 := Tryz.sizeOf275
  v44 := Tryz.zeroValue275
  t46 := Tryz.underlying94
  a46 := Tryz.isAgg94
  z46 := Tryz.sizeOf94
  v46 := Tryz.zeroValue94
  t53 := Tryz.underlying365
  a53 := Tryz.isAgg365
  z53 := Tryz.sizeOf365
  v53 := Tryz.zeroValue365
  t57 := Tryz.underlying368
  a57 := Tryz.isAgg368
  z57 := Tryz.sizeOf368
  v57 := Tryz.zeroValue368
  t63 := Tryz.underlying388
  a63 := Tryz.isAgg388
  z63 := Tryz.sizeOf388
  v63 := Tryz.zeroValue388
  t64 := Tryz.underlying389
  a64 := Tryz.isAgg389
  z64 := Tryz.sizeOf389
  v64 := Tryz.zeroValue389 }

/-- slices.Sort's two contracts at this dump, at the fence that asks nothing. -/
theorem Tryz.sorts148 (m : Nat) : AnyZ.SortsIn Tryz.prog Tryz.sorted148_ren Fence.wide m :=
  ⟨fun blk off cap ss W hH hblk hsz => callsIn_wide.2 (AnyM.slices_Sort_string Tryz.sort197 blk off cap ss W hH hblk hsz),
   fun p cap W => callsIn_wide.2 (AnyM.slices_Sort_string_none Tryz.sort197 p cap W)⟩

/-- **maps.Keys[map[string]any,string,any], at whatever map, the nil one too:** a function value over ONE NEW BLOCK, which holds the map. -/
theorem Tryz.maps_Keys_149 (mb : Option Nat) (W : World) : CallsIn Fence.wide 5 Tryz.prog 149 #[.map mb] W fun e w' => e = .returned (.func (.func 198) #[] #[.pointer (some ⟨W.heap.size, 0, none⟩)]) ∧ w' = W.alloc (.cells #[.map mb] 83) :=
  AnyZ.keys_in Tryz.keys149 Fence.wide 5 trivial rfl mb W

set_option maxHeartbeats 1000000 in
/-- **slices.Sorted[string] AT WHAT maps.Keys[map[string]any,string,any] HANDED BACK FOR A MAP THAT IS NOT nil** ('w': the world AHEAD of maps.Keys' call): A NEW SLICE THAT HOLDS THE MAP's KEYS, SORTED; nil just where it has none; nothing that lay before has turned. -/
theorem Tryz.slices_Sorted_keys_148_149 {H : Type} (b nn : Nat) (D0 : DataW H) (R : Value → Option (DataW H × List MemPlace)) (w : World) (hown : w.ownsMap Tryz.prog 9 R b nn D0) (hmax : Maps.size D0 ≤ maxLen) (hbytes : Maps.size D0 * 16 ≤ 140737488355328) :
    CallsIn Fence.wide 5 Tryz.prog 148 #[.func (.func 198) #[] #[.pointer (some ⟨w.heap.size, 0, none⟩)]] (w.alloc (.cells #[.map (some b)] 83)) fun e w' => ∃ (v : Value) (ss : List (List UInt8)), e = .returned v ∧ ss.Perm (strKeys D0) ∧
      w'.ownsRow (w.alloc (.cells #[.map (some b)] 83)).heap.size 9 1 v ss.length ((ss.mergeSort (fun x y => decide (x ≤ y))).map encStr) ∧ (v = .slice none 0 0 ↔ ss = []) ∧ Below (w.alloc (.cells #[.map (some b)] 83)).heap.size (w.alloc (.cells #[.map (some b)] 83)) w' := by
  have hbl := hown.lt
  have hseq : SeqGives Fence.wide 2 Tryz.prog 198 #[.pointer (some ⟨w.heap.size, 0, none⟩)] encStr (fun ss => ss.Perm (strKeys D0)) (Maps.size D0) (w.alloc (.cells #[.map (some b)] 83)) :=
    AnyZ.keys_gives (ρ := Tryz.keys149_ren) { Tryz.keys149 with } Fence.wide _ trivial rfl (by omega) w.heap.size b nn D0 _ (by simp) (by simp) (by
      obtain ⟨es, clock, hb, Ft, hs, hD⟩ := hown
      exact ⟨es, clock, (Below.heap_alloc _ _ b hbl).trans hb, Ft, hs, hD⟩)
  exact AnyZ.sorted_in Tryz.sorted148 Fence.wide 5 trivial trivial trivial trivial rfl (by omega) (Tryz.sorts148 _) (enters_of Tryz.func197 (by kernel_rfl) rfl) 198 #[.pointer (some ⟨w.heap.size, 0, none⟩)] trivial (enters_of Tryz.func198 (by kernel_rfl) rfl) _ _ hmax hbytes _ hseq

set_option maxHeartbeats 1000000 in
/-- **.. AND FOR THE nil MAP: nil.** -/
theorem Tryz.slices_Sorted_keys_nil_148_149 (w : World) :
    CallsIn Fence.wide 5 Tryz.prog 148 #[.func (.func 198) #[] #[.pointer (some ⟨w.heap.size, 0, none⟩)]] (w.alloc (.cells #[.map none] 83)) fun e w' => ∃ (v : Value) (ss : List (List UInt8)), e = .returned v ∧ ss = [] ∧
      w'.ownsRow (w.alloc (.cells #[.map none] 83)).heap.size 9 1 v ss.length ((ss.mergeSort (fun x y => decide (x ≤ y))).map encStr) ∧ (v = .slice none 0 0 ↔ ss = []) ∧ Below (w.alloc (.cells #[.map none] 83)).heap.size (w.alloc (.cells #[.map none] 83)) w' := by
  have hseq : SeqGives Fence.wide 2 Tryz.prog 198 #[.pointer (some ⟨w.heap.size, 0, none⟩)] encStr (fun ss : List (List UInt8) => ss = []) 0 (w.alloc (.cells #[.map none] 83)) :=
    AnyZ.keys_gives_nil (ρ := Tryz.keys149_ren) { Tryz.keys149 with } Fence.wide _ trivial rfl w.heap.size _ (by simp) (by simp)
  exact AnyZ.sorted_in Tryz.sorted148 Fence.wide 5 trivial trivial trivial trivial rfl (by omega) (Tryz.sorts148 _) (enters_of Tryz.func197 (by kernel_rfl) rfl) 198 #[.pointer (some ⟨w.heap.size, 0, none⟩)] trivial (enters_of Tryz.func198 (by kernel_rfl) rfl) _ 0 (Nat.zero_le _) (by omega) _ hseq

-- THE CALLER's WALK over 'slices.Sorted(maps.Keys(m))' (inside '(callsIn_wide (n := 6)).1'; 'have hfK : Fence.wide.fn 149 := trivial', 'have hfS : Fence.wide.fn 148 := trivial' ahead): THE TWO ARMS TO PASTE:
--   gi_wp2_with (first
--     | (gi_at_call 149; refine (Tryz.maps_Keys_149 _ _).mono ?_; rintro e w' ⟨rfl, rfl⟩)
--     | (gi_at_call 148; refine (Tryz.slices_Sorted_keys_148_149 b nn D0 R w hown hmax hbytes).mono ?_; rintro e w' ⟨v, ss, rfl, hS, hrow, hnil, hb⟩))


end Go.Proofs

/-
  A map's keys, collected and sorted, are the object's keys.
-/
namespace Go.Gj
set_option linter.unusedSimpArgs false
set_option linter.unusedVariables false
set_option linter.unnecessarySimpa false
open Go Go.RowKit Go.Proofs Go.Sort

def R0 : Value → Option (DataW Unit × List MemPlace) := fun _ => some (.nil, [])

theorem map_owned {w : World} {r : Nat} {es : Array MapEntry} {clk : Nat} {ks : List ByteArray} (hh : w.heap[r]? = some (.map es clk)) (hs : MapKept.Stamped es clk) (hp : (es.toList.map (·.key)).Perm (ks.map Value.string)) (hk : ∀ k ∈ ks, k.size ≤ mostLen) (hl : ks.length ≤ lim) :
    ∃ D : DataW Unit, w.ownsMap Tryz.prog 9 R0 r ks.length D ∧ (strKeys D).Perm (ks.map (·.data.toList)) ∧ Maps.size D = ks.length := by
  have hlen : es.size = ks.length := by simpa using hp.length_eq
  have hkey : ∀ x ∈ es.toList, ∃ k ∈ ks, x.key = .string k := fun x hx => by
    have := hp.mem_iff.1 (List.mem_map.2 ⟨x, hx, rfl⟩)
    obtain ⟨k, hk, e⟩ := List.mem_map.1 this
    exact ⟨k, hk, e.symm⟩
  have hrd : ∀ x ∈ es.toList, ∃ k ∈ ks, x.key = .string k ∧ WideElems.rd Tryz.prog 9 R0 x = some (.string k.data.toList, .nil) := fun x hx => by
    obtain ⟨k, hkm, e⟩ := hkey x hx
    refine ⟨k, hkm, e, ?_⟩
    unfold WideElems.rd
    have hkl : k.size ≤ maxLen := by have := hk k hkm; unfold mostLen at this; unfold maxLen; omega
    rw [e, keyOf_string Tryz.underlying9]
    simp [mapKey, hkl, R0, Tryz.underlying9]
  refine ⟨_, ⟨es, clk, hh, ⟨by rw [hlen]; unfold lim at hl; unfold maxLen; omega, hs, fun x hx => ?_⟩, Nat.le_of_eq hlen, rfl⟩, ?_, ?_⟩
  · obtain ⟨k, _, _, h⟩ := hrd x hx; exact ⟨_, h⟩
  · show (((es.toList.map (WideElems.rg Tryz.prog 9 R0)).foldr DataW.insert []).map fun p => strOf p.1).Perm _
    refine ((WideShapes.sorted_perm _).map _).trans ?_
    rw [List.map_map]
    have e1 : es.toList.map ((fun p => strOf p.1) ∘ WideElems.rg Tryz.prog 9 R0) = (es.toList.map (·.key)).map fun v => match v with | .string s => s.data.toList | _ => [] := by
      rw [List.map_map]
      refine List.map_congr_left fun x hx => ?_
      obtain ⟨k, _, e, h⟩ := hrd x hx
      simp only [Function.comp, WideElems.rg_of h, e, strOf]
    rw [e1]
    refine (hp.map _).trans ?_
    rw [List.map_map]
    exact List.Perm.refl _
  · show ((es.toList.map (WideElems.rg Tryz.prog 9 R0)).foldr DataW.insert []).length = _
    rw [(WideShapes.sorted_perm _).length_eq, List.length_map]
    simpa using hlen

/-- Sorted, they are the rising keys. -/
theorem sorted_keys {ks : List ByteArray} (hr : rises ks) {ss : List (List UInt8)} (hp : ss.Perm (ks.map (·.data.toList))) : (ss.mergeSort (fun x y => decide (x ≤ y))).map encStr = ks.map Value.string := by
  have h1 : ss.mergeSort leB = (ks.map (·.data.toList)).mergeSort leB := mergeSort_of_perm hp
  have h2 : (ks.map (·.data.toList)).mergeSort leB = ks.map (·.data.toList) := List.mergeSort_of_pairwise (by
    rw [List.pairwise_map]
    have : ks.Pairwise (fun a b => slt a b = true) := by
      refine List.pairwise_iff_getElem.2 fun i j hi hj hij => rises_lt hr i j hij hj
    refine this.imp fun {a b} h => ?_
    unfold slt at h
    rw [bytesLess_eq, ByteArray.toList_eq, ByteArray.toList_eq] at h
    simp only [leB, decide_eq_true_eq] at h ⊢
    exact List.le_of_lt h)
  show (ss.mergeSort leB).map encStr = _
  rw [h1, h2, List.map_map]
  refine List.map_congr_left fun k _ => ?_
  simp [encStr]
end Go.Gj
