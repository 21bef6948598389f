/-
  DERIVED. MADE BY PROGRAM (lay-iter.mjs) off ytnlndpgbhmkanaagreatdoor.cut.gsa: THE SHELF's CONTRACTS ON 'slices.Sorted(maps.Keys(m))' LAID AT THIS DUMP: 1 map type. NO WALK OF THE LIBRARY's TEXT: each is one application of a contract over any P and ρ (Derived/Shelf/SlIter/, Derived/Shelf/SortM/).
-/
import Derived.Shelf.SlIter.Nil
import Derived.Shelf.SortM.Plain
import Derived.Shelf.SortM.SortNone
import Derived.Ground.GgzProg
import Derived.Ground.SlgmProg
import Derived.Test.YtnlndpgbhmkanaaGreatDoorProg
import Derived.Test.YtnlndpgbhmkanaaGreatDoorFInvL
namespace Go.Proofs
set_option linter.unusedSimpArgs false
set_option linter.unusedVariables false
set_option linter.unnecessarySimpa false
open Go.RowKit Go.Maps Go.Sort Go.Shelf

-- maps.Keys[map[string]any,string,any] (function 149; its iterator 198) · slices.Sorted[string] (148) · slices.Sort[[]string,string] (197) · the map's type 83, the keys' 9
shelf_lay_g SlLaysZ.n7 Ggz 7 at Tryz 149 as Tryz.keys149
shelf_lay_g SlLaysZ.n6 Ggz 6 at Tryz 148 as Tryz.sorted148
shelf_lay_g SlLaysM.n6 Slgm 6 at Tryz 197 as Tryz.sort197

/-- slices.Sort's two contracts at this dump, at the fence that asks nothing. -/
theorem Tryz.sorts148 (m : Nat) : AnyZ.SortsIn Tryz.prog Tryz.sorted148_ren Fence.wide m :=
  ⟨fun blk off cap ss W hH hblk hsz => callsIn_wide.2 (AnyM.slices_Sort_string Tryz.sort197 blk off cap ss W hH hblk hsz),
   fun p cap W => callsIn_wide.2 (AnyM.slices_Sort_string_none Tryz.sort197 p cap W)⟩

/-- **maps.Keys[map[string]any,string,any], at whatever map, the nil one too:** a function value over ONE NEW BLOCK, which holds the map. -/
theorem Tryz.maps_Keys_149 (mb : Option Nat) (W : World) : CallsIn Fence.wide 5 Tryz.prog 149 #[.map mb] W fun e w' => e = .returned (.func (.func 198) #[] #[.pointer (some ⟨W.heap.size, 0, none⟩)]) ∧ w' = W.alloc (.cells #[.map mb] 83) :=
  AnyZ.keys_in Tryz.keys149 Fence.wide 5 trivial rfl mb W

set_option maxHeartbeats 1000000 in
/-- **slices.Sorted[string] AT WHAT maps.Keys[map[string]any,string,any] HANDED BACK FOR A MAP THAT IS NOT nil** ('w': the world AHEAD of maps.Keys' call): A NEW SLICE THAT HOLDS THE MAP's KEYS, SORTED; nil just where it has none; nothing that lay before has turned. -/
theorem Tryz.slices_Sorted_keys_148_149 {H : Type} (b nn : Nat) (D0 : DataW H) (R : Value → Option (DataW H × List MemPlace)) (w : World) (hown : w.ownsMap Tryz.prog 9 R b nn D0) (hmax : Maps.size D0 ≤ maxLen) (hbytes : Maps.size D0 * 16 ≤ 140737488355328) :
    CallsIn Fence.wide 5 Tryz.prog 148 #[.func (.func 198) #[] #[.pointer (some ⟨w.heap.size, 0, none⟩)]] (w.alloc (.cells #[.map (some b)] 83)) fun e w' => ∃ (v : Value) (ss : List (List UInt8)), e = .returned v ∧ ss.Perm (strKeys D0) ∧
      w'.ownsRow (w.alloc (.cells #[.map (some b)] 83)).heap.size 9 1 v ss.length ((ss.mergeSort (fun x y => decide (x ≤ y))).map encStr) ∧ (v = .slice none 0 0 ↔ ss = []) ∧ Below (w.alloc (.cells #[.map (some b)] 83)).heap.size (w.alloc (.cells #[.map (some b)] 83)) w' := by
  have hbl := hown.lt
  have hseq : SeqGives Fence.wide 2 Tryz.prog 198 #[.pointer (some ⟨w.heap.size, 0, none⟩)] encStr (fun ss => ss.Perm (strKeys D0)) (Maps.size D0) (w.alloc (.cells #[.map (some b)] 83)) :=
    AnyZ.keys_gives (ρ := Tryz.keys149_ren) { Tryz.keys149 with } Fence.wide _ trivial rfl (by omega) w.heap.size b nn D0 _ (by simp) (by simp) (by
      obtain ⟨es, clock, hb, Ft, hs, hD⟩ := hown
      exact ⟨es, clock, (Below.heap_alloc _ _ b hbl).trans hb, Ft, hs, hD⟩)
  exact AnyZ.sorted_in Tryz.sorted148 Fence.wide 5 trivial trivial trivial trivial rfl (by omega) (Tryz.sorts148 _) (enters_of Tryz.func197 (by kernel_rfl) rfl) 198 #[.pointer (some ⟨w.heap.size, 0, none⟩)] trivial (enters_of Tryz.func198 (by kernel_rfl) rfl) _ _ hmax hbytes _ hseq

set_option maxHeartbeats 1000000 in
/-- **.. AND FOR THE nil MAP: nil.** -/
theorem Tryz.slices_Sorted_keys_nil_148_149 (w : World) :
    CallsIn Fence.wide 5 Tryz.prog 148 #[.func (.func 198) #[] #[.pointer (some ⟨w.heap.size, 0, none⟩)]] (w.alloc (.cells #[.map none] 83)) fun e w' => ∃ (v : Value) (ss : List (List UInt8)), e = .returned v ∧ ss = [] ∧
      w'.ownsRow (w.alloc (.cells #[.map none] 83)).heap.size 9 1 v ss.length ((ss.mergeSort (fun x y => decide (x ≤ y))).map encStr) ∧ (v = .slice none 0 0 ↔ ss = []) ∧ Below (w.alloc (.cells #[.map none] 83)).heap.size (w.alloc (.cells #[.map none] 83)) w' := by
  have hseq : SeqGives Fence.wide 2 Tryz.prog 198 #[.pointer (some ⟨w.heap.size, 0, none⟩)] encStr (fun ss : List (List UInt8) => ss = []) 0 (w.alloc (.cells #[.map none] 83)) :=
    AnyZ.keys_gives_nil (ρ := Tryz.keys149_ren) { Tryz.keys149 with } Fence.wide _ trivial rfl w.heap.size _ (by simp) (by simp)
  exact AnyZ.sorted_in Tryz.sorted148 Fence.wide 5 trivial trivial trivial trivial rfl (by omega) (Tryz.sorts148 _) (enters_of Tryz.func197 (by kernel_rfl) rfl) 198 #[.pointer (some ⟨w.heap.size, 0, none⟩)] trivial (enters_of Tryz.func198 (by kernel_rfl) rfl) _ 0 (Nat.zero_le _) (by omega) _ hseq

-- THE CALLER's WALK over 'slices.Sorted(maps.Keys(m))' (inside '(callsIn_wide (n := 6)).1'; 'have hfK : Fence.wide.fn 149 := trivial', 'have hfS : Fence.wide.fn 148 := trivial' ahead): THE TWO ARMS TO PASTE:
--   gi_wp2_with (first
--     | (gi_at_call 149; refine (Tryz.maps_Keys_149 _ _).mono ?_; rintro e w' ⟨rfl, rfl⟩)
--     | (gi_at_call 148; refine (Tryz.slices_Sorted_keys_148_149 b nn D0 R w hown hmax hbytes).mono ?_; rintro e w' ⟨v, ss, rfl, hS, hrow, hnil, hb⟩))


end Go.Proofs

/-
  A map's keys, collected and sorted, are the object's keys.
-/
namespace Go.Gj
set_option linter.unusedSimpArgs false
set_option linter.unusedVariables false
set_option linter.unnecessarySimpa false
open Go Go.RowKit Go.Proofs Go.Sort

def R0 : Value → Option (DataW Unit × List MemPlace) := fun _ => some (.nil, [])

theorem map_owned {w : World} {r : Nat} {es : Array MapEntry} {clk : Nat} {ks : List ByteArray} (hh : w.heap[r]? = some (.map es clk)) (hs : MapKept.Stamped es clk) (hp : (es.toList.map (·.key)).Perm (ks.map Value.string)) (hk : ∀ k ∈ ks, k.size ≤ mostLen) (hl : ks.length ≤ lim) :
    ∃ D : DataW Unit, w.ownsMap Tryz.prog 9 R0 r ks.length D ∧ (strKeys D).Perm (ks.map (·.data.toList)) ∧ Maps.size D = ks.length := by
  have hlen : es.size = ks.length := by simpa using hp.length_eq
  have hkey : ∀ x ∈ es.toList, ∃ k ∈ ks, x.key = .string k := fun x hx => by
    have := hp.mem_iff.1 (List.mem_map.2 ⟨x, hx, rfl⟩)
    obtain ⟨k, hk, e⟩ := List.mem_map.1 this
    exact ⟨k, hk, e.symm⟩
  have hrd : ∀ x ∈ es.toList, ∃ k ∈ ks, x.key = .string k ∧ WideElems.rd Tryz.prog 9 R0 x = some (.string k.data.toList, .nil) := fun x hx => by
    obtain ⟨k, hkm, e⟩ := hkey x hx
    refine ⟨k, hkm, e, ?_⟩
    unfold WideElems.rd
    have hkl : k.size ≤ maxLen := by have := hk k hkm; unfold mostLen at this; unfold maxLen; omega
    rw [e, keyOf_string Tryz.underlying9]
    simp [mapKey, hkl, R0, Tryz.underlying9]
  refine ⟨_, ⟨es, clk, hh, ⟨by rw [hlen]; unfold lim at hl; unfold maxLen; omega, hs, fun x hx => ?_⟩, Nat.le_of_eq hlen, rfl⟩, ?_, ?_⟩
  · obtain ⟨k, _, _, h⟩ := hrd x hx; exact ⟨_, h⟩
  · show (((es.toList.map (WideElems.rg Tryz.prog 9 R0)).foldr DataW.insert []).map fun p => strOf p.1).Perm _
    refine ((WideShapes.sorted_perm _).map _).trans ?_
    rw [List.map_map]
    have e1 : es.toList.map ((fun p => strOf p.1) ∘ WideElems.rg Tryz.prog 9 R0) = (es.toList.map (·.key)).map fun v => match v with | .string s => s.data.toList | _ => [] := by
      rw [List.map_map]
      refine List.map_congr_left fun x hx => ?_
      obtain ⟨k, _, e, h⟩ := hrd x hx
      simp only [Function.comp, WideElems.rg_of h, e, strOf]
    rw [e1]
    refine (hp.map _).trans ?_
    rw [List.map_map]
    exact List.Perm.refl _
  · show ((es.toList.map (WideElems.rg Tryz.prog 9 R0)).foldr DataW.insert []).length = _
    rw [(WideShapes.sorted_perm _).length_eq, List.length_map]
    simpa using hlen

/-- Sorted, they are the rising keys. -/
theorem sorted_keys {ks : List ByteArray} (hr : rises ks) {ss : List (List UInt8)} (hp : ss.Perm (ks.map (·.data.toList))) : (ss.mergeSort (fun x y => decide (x ≤ y))).map encStr = ks.map Value.string := by
  have h1 : ss.mergeSort leB = (ks.map (·.data.toList)).mergeSort leB := mergeSort_of_perm hp
  have h2 : (ks.map (·.data.toList)).mergeSort leB = ks.map (·.data.toList) := List.mergeSort_of_pairwise (by
    rw [List.pairwise_map]
    have : ks.Pairwise (fun a b => slt a b = true) := by
      refine List.pairwise_iff_getElem.2 fun i j hi hj hij => rises_lt hr i j hij hj
    refine this.imp fun {a b} h => ?_
    unfold slt at h
    rw [bytesLess_eq, ByteArray.toList_eq, ByteArray.toList_eq] at h
    simp only [leB, decide_eq_true_eq] at h ⊢
    exact List.le_of_lt h)
  show (ss.mergeSort leB).map encStr = _
  rw [h1, h2, List.map_map]
  refine List.map_congr_left fun k _ => ?_
  simp [encStr]
end Go.Gj
