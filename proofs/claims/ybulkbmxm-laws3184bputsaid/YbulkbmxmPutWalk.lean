/- wire.LawS3184BPut: the contracts of its callees. -/
import Derived.Test.YbulkbmxmRows
import Derived.WalkKit
import Derived.WalkSpells
import Derived.BigQuiet
import Derived.Deep.RegionWith
import Derived.Laws.CopyOwn
import Derived.Lib.EndianBits
namespace Go.Proofs.Ybulkbmxm.lawS3184BPut
open Go.RowKit

theorem put16 (g o n c : Nat) (u : Int) (hu0 : 0 ≤ u) (hu1 : u < 65536) (x0 x1 : Value) (w : World) (hn : 2 ≤ n)
    (c0 : w.cell? ⟨g, o, none⟩ = some x0) (c1 : w.cell? ⟨g, o + 1, none⟩ = some x1)
    (f0 : w.frozen? ⟨g, o, none⟩ = false) (f1 : w.frozen? ⟨g, o + 1, none⟩ = false) :
    Calls Yba.prog 16 #[.agg #[], .slice (some ⟨g, o, none⟩) n c, .int .u16 u] w fun e w' => e = .returned (.tuple #[]) ∧ w' = ((w.setCell ⟨g, o, none⟩ (.int .u8 (u / 256))).setCell ⟨g, o + 1, none⟩ (.int .u8 (u % 256))).alloc (.cells #[] 132) := by
  have hg := block_lt_of_cell c0
  simp only at hg
  go_enter Yba.func16, Yba.ntmps16
  go_wp2
  go_end0
  exact ⟨rfl, rfl⟩

theorem put1 (g o n c : Nat) (v : Int) (x0 : Value) (w : World) (hn : o < n)
    (c0 : w.cell? ⟨g, o, none⟩ = some x0) (f0 : w.frozen? ⟨g, o, none⟩ = false) :
    Calls Yba.prog 9 #[.agg #[.int .i64 o, .int .i64 1, .int .i64 0], .slice (some ⟨g, 0, none⟩) n c, .int .i64 v] w fun e w' => e = .returned (.tuple #[]) ∧ w' = (w.setCell ⟨g, o, none⟩ (.int .u8 (v % 256))).alloc (.cells #[.int .i64 o, .int .i64 1, .int .i64 0] 33) := by
  have hg := block_lt_of_cell c0
  simp only at hg
  go_enter Yba.func9, Yba.ntmps9
  go_wp2
  exact bodyPost_ret (results_none rfl _ _ _) rfl ⟨rfl, rfl⟩

set_option maxHeartbeats 400000 in
theorem put2 (g o n c : Nat) (v wd : Int) (hwd : (wd == 1) = false) (x0 x1 : Value) (w : World) (hn : o + 1 < n) (hnc : n ≤ c)
    (c0 : w.cell? ⟨g, o, none⟩ = some x0) (c1 : w.cell? ⟨g, o + 1, none⟩ = some x1) (f0 : w.frozen? ⟨g, o, none⟩ = false) (f1 : w.frozen? ⟨g, o + 1, none⟩ = false) :
    Calls Yba.prog 9 #[.agg #[.int .i64 o, .int .i64 wd, .int .i64 0], .slice (some ⟨g, 0, none⟩) n c, .int .i64 v] w fun e w' => e = .returned (.tuple #[]) ∧
      w' = ((((w.setCell ⟨g, o, none⟩ (.int .u8 (IntKind.u16.wrap v / 256))).setCell ⟨g, o + 1, none⟩ (.int .u8 (IntKind.u16.wrap v % 256))).alloc (.cells #[.int .i64 o, .int .i64 wd, .int .i64 0] 33)).alloc (.cells #[] 132)).drew := by
  have hg := block_lt_of_cell c0
  simp only at hg
  have hP := put16 g o (n - o) (c - o) (IntKind.u16.wrap v) (by show 0 ≤ v % 65536; omega) (by show v % 65536 < 65536; omega) x0 x1 (w.alloc (.cells #[.int .i64 o, .int .i64 wd, .int .i64 0] 33)).drew (by omega)
    ((World.cell?_alloc_past _ g o hg).trans c0) ((World.cell?_alloc_past _ g (o + 1) hg).trans c1) ((World.frozen?_alloc_past _ g o hg).trans f0) ((World.frozen?_alloc_past _ g (o + 1) hg).trans f1)
  go_enter Yba.func9, Yba.ntmps9
  go_wp2_with fail
  go_region_with (go_at_call 16; refine hP.mono ?_; rintro e w' ⟨rfl, rfl⟩)
  all_goals
    go_wp2
    go_end0
    exact ⟨rfl, rfl⟩

/-! ### What the two ways do to the row -/
theorem row_put1 (g o n c : Nat) (v : Int) (L : List Value) (w : World) (hL : L.length = n) (hn : o < n) (hr : w.heap[g]? = some (.cells L.toArray 5 (0, 0))) :
    Calls Yba.prog 9 #[.agg #[.int .i64 o, .int .i64 1, .int .i64 0], .slice (some ⟨g, 0, none⟩) n c, .int .i64 v] w fun e w' => e = .returned (.tuple #[]) ∧
      w'.heap[g]? = some (.cells (L.set o (.int .u8 (v % 256))).toArray 5 (0, 0)) ∧ Below g w w' := by
  have hg := lt_of_block hr
  refine (put1 g o n c v (L[o]'(by omega)) w hn (by rw [cell_of_row w g o _ _ _ hr]; simp [hL, hn]) (frozen_of_row w g o _ _ hr)).mono ?_
  rintro e w' ⟨rfl, rfl⟩
  refine ⟨rfl, ?_, ?_⟩
  · rw [Below.heap_alloc _ _ _ (by simpa [World.setCell] using hg), heap_setCell_same w g o _ _ _ hr]; simp
  · exact ((Below.refl g w).setCell (p := ⟨g, o, none⟩) (Nat.le_refl _) _).alloc (by simp [World.setCell]; omega) _

theorem row_put2 (g o n c : Nat) (v wd : Int) (hwd : (wd == 1) = false) (L : List Value) (w : World) (hL : L.length = n) (hn : o + 1 < n) (hnc : n ≤ c) (hr : w.heap[g]? = some (.cells L.toArray 5 (0, 0))) :
    Calls Yba.prog 9 #[.agg #[.int .i64 o, .int .i64 wd, .int .i64 0], .slice (some ⟨g, 0, none⟩) n c, .int .i64 v] w fun e w' => e = .returned (.tuple #[]) ∧
      w'.heap[g]? = some (.cells ((L.set o (.int .u8 (IntKind.u16.wrap v / 256))).set (o + 1) (.int .u8 (IntKind.u16.wrap v % 256))).toArray 5 (0, 0)) ∧ Below g w w' := by
  have hg := lt_of_block hr
  refine (put2 g o n c v wd hwd (L[o]'(by omega)) (L[o + 1]'(by omega)) w hn hnc (by rw [cell_of_row w g o _ _ _ hr]; simp) (by rw [cell_of_row w g (o + 1) _ _ _ hr]; simp) (frozen_of_row w g o _ _ hr) (frozen_of_row w g (o + 1) _ _ hr)).mono ?_
  rintro e w' ⟨rfl, rfl⟩
  refine ⟨rfl, ?_, ?_⟩
  · rw [heap_drew, Below.heap_alloc _ _ _ (by simp [World.setCell]; omega), Below.heap_alloc _ _ _ (by simp [World.setCell]; omega), heap_setCell_same _ g (o + 1) _ _ _ (heap_setCell_same w g o _ _ _ hr)]; simp
  · exact (((((Below.refl g w).setCell (p := ⟨g, o, none⟩) (Nat.le_refl _) _).setCell (p := ⟨g, o + 1, none⟩) (Nat.le_refl _) _).alloc (by simp [World.setCell]; omega) _).alloc (by simp [World.setCell]; omega) _).drew

theorem row_of_owns {w : World} {base e g n : Nat} {xs : List Value} (h : w.ownsRow base e 1 (.slice (some ⟨g, 0, none⟩) n n) n xs) : w.heap[g]? = some (.cells xs.toArray e (0, 0)) := by
  obtain ⟨_, h | ⟨g', cap, cur, hv, _, hh, _, _, hs, ht⟩⟩ := h
  · simp at h
  · simp at hv
    obtain ⟨rfl, rfl⟩ := hv
    rw [List.take_of_length_le (by simp [hs])] at ht
    subst ht
    simpa using hh

end Go.Proofs.Ybulkbmxm.lawS3184BPut
