/-
  DERIVED. MADE BY PROGRAM (lay-iter.mjs) off ybulkbmyafmt.cut.gsa: THE SHELF's CONTRACTS ON 'slices.Sorted(maps.Keys(m))' LAID AT THIS DUMP: 1 map type. NO WALK OF THE LIBRARY's TEXT: each is one application of a contract over any P and ρ (Derived/Shelf/SlIter/, Derived/Shelf/SortM/).
-/
import Derived.Shelf.SlIter.Nil
import Derived.Shelf.SortM.Plain
import Derived.Shelf.SortM.SortNone
import Derived.Ground.GgzProg
import Derived.Ground.SlgmProg
import Derived.Test.YbulkbmyaFmtProg
namespace Go.Proofs
open Go.RowKit Go.Maps Go.Sort Go.Shelf

-- maps.Keys[map[string]interface{},string,interface{}] (function 24; its iterator 27) · slices.Sorted[string] (23) · slices.Sort[[]string,string] (26) · the map's type 26, the keys' 9
shelf_lay_g SlLaysZ.n7 Ggz 7 at Ybaf 24 as Ybaf.keys24
shelf_lay_g SlLaysZ.n6 Ggz 6 at Ybaf 23 as Ybaf.sorted23
shelf_lay_g SlLaysM.n6 Slgm 6 at Ybaf 26 as Ybaf.sort26

/-- slices.Sort's two contracts at this dump, at the fence that asks nothing. -/
theorem Ybaf.sorts23 (m : Nat) : AnyZ.SortsIn Ybaf.prog Ybaf.sorted23_ren Fence.wide m :=
  ⟨fun blk off cap ss W hH hblk hsz => callsIn_wide.2 (AnyM.slices_Sort_string Ybaf.sort26 blk off cap ss W hH hblk hsz),
   fun p cap W => callsIn_wide.2 (AnyM.slices_Sort_string_none Ybaf.sort26 p cap W)⟩

/-- **maps.Keys[map[string]interface{},string,interface{}], at whatever map, the nil one too:** a function value over ONE NEW BLOCK, which holds the map. -/
theorem Ybaf.maps_Keys_24 (mb : Option Nat) (W : World) : CallsIn Fence.wide 5 Ybaf.prog 24 #[.map mb] W fun e w' => e = .returned (.func (.func 27) #[] #[.pointer (some ⟨W.heap.size, 0, none⟩)]) ∧ w' = W.alloc (.cells #[.map mb] 26) :=
  AnyZ.keys_in Ybaf.keys24 Fence.wide 5 trivial rfl mb W

set_option maxHeartbeats 1000000 in
/-- **slices.Sorted[string] AT WHAT maps.Keys[map[string]interface{},string,interface{}] HANDED BACK FOR A MAP THAT IS NOT nil** ('w': the world AHEAD of maps.Keys' call): A NEW SLICE THAT HOLDS THE MAP's KEYS, SORTED; nil just where it has none; nothing that lay before has turned. -/
theorem Ybaf.slices_Sorted_keys_23_24 {H : Type} (b nn : Nat) (D0 : DataW H) (R : Value → Option (DataW H × List MemPlace)) (w : World) (hown : w.ownsMap Ybaf.prog 9 R b nn D0) (hmax : Maps.size D0 ≤ maxLen) (hbytes : Maps.size D0 * 16 ≤ 140737488355328) :
    CallsIn Fence.wide 5 Ybaf.prog 23 #[.func (.func 27) #[] #[.pointer (some ⟨w.heap.size, 0, none⟩)]] (w.alloc (.cells #[.map (some b)] 26)) fun e w' => ∃ (v : Value) (ss : List (List UInt8)), e = .returned v ∧ ss.Perm (strKeys D0) ∧
      w'.ownsRow (w.alloc (.cells #[.map (some b)] 26)).heap.size 9 1 v ss.length ((ss.mergeSort (fun x y => decide (x ≤ y))).map encStr) ∧ (v = .slice none 0 0 ↔ ss = []) ∧ Below (w.alloc (.cells #[.map (some b)] 26)).heap.size (w.alloc (.cells #[.map (some b)] 26)) w' := by
  have hbl := hown.lt
  have hseq : SeqGives Fence.wide 2 Ybaf.prog 27 #[.pointer (some ⟨w.heap.size, 0, none⟩)] encStr (fun ss => ss.Perm (strKeys D0)) (Maps.size D0) (w.alloc (.cells #[.map (some b)] 26)) :=
    AnyZ.keys_gives (ρ := Ybaf.keys24_ren) { Ybaf.keys24 with } Fence.wide _ trivial rfl (by omega) w.heap.size b nn D0 _ (by simp) (by simp) (by
      obtain ⟨es, clock, hb, Ft, hs, hD⟩ := hown
      exact ⟨es, clock, (Below.heap_alloc _ _ b hbl).trans hb, Ft, hs, hD⟩)
  exact AnyZ.sorted_in Ybaf.sorted23 Fence.wide 5 trivial trivial trivial trivial rfl (by omega) (Ybaf.sorts23 _) (enters_of Ybaf.func26 (by kernel_rfl) rfl) 27 #[.pointer (some ⟨w.heap.size, 0, none⟩)] trivial (enters_of Ybaf.func27 (by kernel_rfl) rfl) _ _ hmax hbytes _ hseq

set_option maxHeartbeats 1000000 in
/-- **.. AND FOR THE nil MAP: nil.** -/
theorem Ybaf.slices_Sorted_keys_nil_23_24 (w : World) :
    CallsIn Fence.wide 5 Ybaf.prog 23 #[.func (.func 27) #[] #[.pointer (some ⟨w.heap.size, 0, none⟩)]] (w.alloc (.cells #[.map none] 26)) fun e w' => ∃ (v : Value) (ss : List (List UInt8)), e = .returned v ∧ ss = [] ∧
      w'.ownsRow (w.alloc (.cells #[.map none] 26)).heap.size 9 1 v ss.length ((ss.mergeSort (fun x y => decide (x ≤ y))).map encStr) ∧ (v = .slice none 0 0 ↔ ss = []) ∧ Below (w.alloc (.cells #[.map none] 26)).heap.size (w.alloc (.cells #[.map none] 26)) w' := by
  have hseq : SeqGives Fence.wide 2 Ybaf.prog 27 #[.pointer (some ⟨w.heap.size, 0, none⟩)] encStr (fun ss : List (List UInt8) => ss = []) 0 (w.alloc (.cells #[.map none] 26)) :=
    AnyZ.keys_gives_nil (ρ := Ybaf.keys24_ren) { Ybaf.keys24 with } Fence.wide _ trivial rfl w.heap.size _ (by simp) (by simp)
  exact AnyZ.sorted_in Ybaf.sorted23 Fence.wide 5 trivial trivial trivial trivial rfl (by omega) (Ybaf.sorts23 _) (enters_of Ybaf.func26 (by kernel_rfl) rfl) 27 #[.pointer (some ⟨w.heap.size, 0, none⟩)] trivial (enters_of Ybaf.func27 (by kernel_rfl) rfl) _ 0 (Nat.zero_le _) (by omega) _ hseq

-- THE CALLER's WALK over 'slices.Sorted(maps.Keys(m))' (inside '(callsIn_wide (n := 6)).1'; 'have hfK : Fence.wide.fn 24 := trivial', 'have hfS : Fence.wide.fn 23 := trivial' ahead): THE TWO ARMS TO PASTE:
--   gi_wp2_with (first
--     | (gi_at_call 24; refine (Ybaf.maps_Keys_24 _ _).mono ?_; rintro e w' ⟨rfl, rfl⟩)
--     | (gi_at_call 23; refine (Ybaf.slices_Sorted_keys_23_24 b nn D0 R w hown hmax hbytes).mono ?_; rintro e w' ⟨v, ss, rfl, hS, hrow, hnil, hb⟩))


end Go.Proofs
