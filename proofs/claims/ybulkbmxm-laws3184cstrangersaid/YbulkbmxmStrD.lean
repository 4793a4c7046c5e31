/- (*rumorwire.round).add -/
import Derived.Test.YbulkbmxmStrC
import Derived.Deep.RegionLaw
import Derived.Deep.AppendLies
import Derived.Deep.DrawnRows
namespace Go.Proofs.Ybulkbmxm.lawS3184CStranger
open Go.RowKit

/-- A frame from p without a payload: its five cells. -/
def fr5 (p : Int) : List Value := [.int .u64 0, .int .u64 0, .pointer none, .int .u16 p, .slice none 0 0]
def flat5 (ps : List Int) : List Value := ps.flatMap fr5
theorem fr5_one (p : Int) : ∀ u ∈ fr5 p, u.oneCell' = true := by
  intro u hu
  simp [fr5] at hu
  rcases hu with rfl | rfl | rfl | rfl <;> rfl
theorem flat5_snoc (ps : List Int) (p : Int) : flat5 (ps ++ [p]) = flat5 ps ++ fr5 p := by simp [flat5]

theorem info137 : (Yba.prog.info? 137).map (fun i => (i.zero, i.size, i.bytes)) = some (some (.agg #[.int .u64 0, .int .u64 0, .pointer none, .int .u16 0, .slice none 0 0]), 5, 56) := by kernel_rfl

theorem frozen_drew (w : World) (a : Addr) : w.drew.frozen? a = w.frozen? a := rfl

theorem keepS {w w1 : World} {R F n cap : Nat} {s : Int} {o : Obj} (hRF : R ≠ F) (hRb : R < w.heap.size) (hFb : F < w.heap.size) (hR : w.cell? ⟨R, 2, none⟩ = some (.slice (some ⟨F, 0, none⟩) n cap)) (hRf : w.frozen? ⟨R, 2, none⟩ = false)
    (hgrow : ((w.alloc (.cells #[.int .u64 0, .int .u64 0, .pointer none, .int .u16 s] 50)).alloc o).drew.grownBy w1 (Value.slice (some ⟨F, 0, none⟩) n cap).ownBlock) :
    w1.cell? ⟨R, 2, none⟩ = some (.slice (some ⟨F, 0, none⟩) n cap) ∧ w1.frozen? ⟨R, 2, none⟩ = false ∧ w1.cell? ⟨w.heap.size, 0, none⟩ = some (.int .u64 0) ∧ w1.cell? ⟨w.heap.size, 1, none⟩ = some (.int .u64 0) ∧ w1.cell? ⟨w.heap.size, 2, none⟩ = some (.pointer none) ∧ w1.cell? ⟨w.heap.size, 3, none⟩ = some (.int .u16 s) := by
  have nR : some R ≠ (Value.slice (some ⟨F, 0, none⟩) n cap).ownBlock := fun h => hRF (by simpa [Value.ownBlock] using h)
  have nB : some w.heap.size ≠ (Value.slice (some ⟨F, 0, none⟩) n cap).ownBlock := fun h => by simp [Value.ownBlock] at h; omega
  have sz : ((w.alloc (.cells #[.int .u64 0, .int .u64 0, .pointer none, .int .u16 s] 50)).alloc o).drew.heap.size = w.heap.size + 2 := by rw [heap_drew]; simp
  have bx : ∀ i, ((w.alloc (.cells #[.int .u64 0, .int .u64 0, .pointer none, .int .u16 s] 50)).alloc o).drew.cell? ⟨w.heap.size, i, none⟩ = #[.int .u64 0, .int .u64 0, .pointer none, .int .u16 s][i]? := fun i =>
    (World.cell?_alloc_past (w := w.alloc (.cells #[.int .u64 0, .int .u64 0, .pointer none, .int .u16 s] 50)) o _ i (by simp)).trans (World.cell?_alloc_at _ _ _ _ rfl)
  refine ⟨?_, ?_, ?_, ?_, ?_, ?_⟩
  · rw [hgrow.cell_far _ (by rw [sz]; show R < _; omega) nR]
    exact (World.cell?_alloc_past (w := w.alloc _) o R 2 (by simp; omega)).trans ((World.cell?_alloc_past _ R 2 hRb).trans hR)
  · rw [hgrow.frozen_far _ (by rw [sz]; show R < _; omega) nR]
    exact (World.frozen?_alloc_past (w := w.alloc _) o R 2 (by simp; omega)).trans ((World.frozen?_alloc_past _ R 2 hRb).trans hRf)
  · rw [hgrow.cell_far _ (by rw [sz]; show w.heap.size < _; omega) nB, bx]; rfl
  · rw [hgrow.cell_far _ (by rw [sz]; show w.heap.size < _; omega) nB, bx]; rfl
  · rw [hgrow.cell_far _ (by rw [sz]; show w.heap.size < _; omega) nB, bx]; rfl
  · rw [hgrow.cell_far _ (by rw [sz]; show w.heap.size < _; omega) nB, bx]; rfl

theorem grown_of {w w1 : World} {F n cap : Nat} {o o' : Obj} (h : ((w.alloc o).alloc o').drew.grownBy w1 (Value.slice (some ⟨F, 0, none⟩) n cap).ownBlock) : w.grownBy w1 (some F) := by
  have sz : ((w.alloc o).alloc o').drew.heap.size = w.heap.size + 2 := by rw [heap_drew]; simp
  refine ⟨h.os, h.tape, h.output, by have := h.size; rw [sz] at this; omega, fun k hk hne => ?_⟩
  rw [h.block k (by rw [sz]; omega) (by simpa [Value.ownBlock] using hne), heap_drew, Below.heap_alloc _ _ _ (by simp; omega), Below.heap_alloc _ _ _ hk]
theorem lies_of {w : World} {F g n cap : Nat} (h : (Value.slice (some ⟨F, 0, none⟩) n cap).ownBlock = some g ∨ g = w.heap.size + 2) : g = F ∨ w.heap.size ≤ g := by
  rcases h with h | h
  · exact .inl (by simpa [Value.ownBlock] using h.symm)
  · exact .inr (by omega)

attribute [local go_sem ↓] Go.wp_at_zero Go.wp_at_succ

set_option maxHeartbeats 1000000 in
set_option maxRecDepth 100000 in
theorem add_any (base R F n cap : Nat) (ps : List Int) (s : Int) (w : World) (hn : n ≤ 1280) (hbase : base ≤ w.heap.size) (hRF : R ≠ F)
    (hR : w.cell? ⟨R, 2, none⟩ = some (.slice (some ⟨F, 0, none⟩) n cap)) (hRf : w.frozen? ⟨R, 2, none⟩ = false)
    (hown : w.ownsRow base 137 5 (.slice (some ⟨F, 0, none⟩) n cap) n (flat5 ps)) :
    Calls Yba.prog 24 #[.pointer (some ⟨R, 0, none⟩), .agg #[.int .u64 0, .int .u64 0, .pointer none, .int .u16 s]] w fun e w' =>
      ∃ g cap' w1, e = .returned (.int .i64 n) ∧ w1.ownsRow base 137 5 (.slice (some ⟨g, 0, none⟩) (n + 1) cap') (n + 1) (flat5 (ps ++ [s])) ∧ w.grownBy w1 (some F) ∧ (g = F ∨ w.heap.size ≤ g) ∧
        w' = w1.setCell ⟨R, 2, none⟩ (.slice (some ⟨g, 0, none⟩) (n + 1) cap') := by
  obtain ⟨i0, hi, hz0, hz1, hz2⟩ := info_parts info137
  have hRb : R < w.heap.size := by have := block_lt_of_cell hR; simpa using this
  have hFb : F < w.heap.size := by
    rcases hown.2 with ⟨h, _⟩ | ⟨g, c, cur, h, _, hh, _⟩
    · simp at h
    · simp at h; rw [h.1]; exact lt_of_block hh
  have nR : Hid (some R ≠ (Value.slice (some ⟨F, 0, none⟩) n cap).ownBlock) := fun h => hRF (by simpa [Value.ownBlock] using h)
  have nB : Hid (some w.heap.size ≠ (Value.slice (some ⟨F, 0, none⟩) n cap).ownBlock) := fun h => by simp [Value.ownBlock] at h; omega
  have hfd := frozen_drew
  have hfa : ∀ o, (w.alloc o).frozen? ⟨R, 2, none⟩ = false := fun o => (World.frozen?_alloc_past _ _ _ hRb).trans hRf
  have hfa2 : ∀ o o', ((w.alloc o).alloc o').frozen? ⟨R, 2, none⟩ = false := fun o o' => (World.frozen?_alloc_past _ _ _ (by simp; omega)).trans (hfa o)
  have HO : Hid (w.ownsRow base 137 5 (.slice (some ⟨F, 0, none⟩) n cap) n (flat5 ps)) := hown
  clear hown
  go_enter Yba.func24, Yba.ntmps24
  go_wp2_with fail
  go_region_law ((refine step_append_lies _ (by rfl) (.tmp 9) (.tmp 12) 135 (by rfl) base 137 i0 _ 5 56 Yba.underlying135 hi hz0 hz1 hz2 (by rfl) (by omega) _ n (flat5 ps) (by rfl) (((HO.out.alloc _).alloc _).drew) ⟨w.heap.size + 1, 0, none⟩ 1 1 (fr5 s) (by rfl) (by rfl) (World.news_of_block (cs := #[.int .u64 0, .int .u64 0, .pointer none, .int .u16 s, .slice none 0 0]) (heap_alloc2_new w _ _)) (fr5_one s) (by omega) (by unfold maxLen; omega) (by omega) (by simp; omega) (w.heap.size + 2) (by simp) ?_; intro g cap' w1 hown1 hgrow hat hlt; obtain ⟨c2, fz2, _⟩ := keepS hRF hRb hFb hR hRf hgrow))
  all_goals
    have R1 : w1.ownsRow base 137 5 (.slice (some ⟨g, 0, none⟩) (n + 1) cap') (n + 1) (flat5 (ps ++ [s])) := by rw [flat5_snoc]; exact hown1
    have R2 := grown_of hgrow
    have R3 := lies_of (w := w) hat
    clear hgrow hat hown1
    go_wp2
    go_ret
    exact ⟨g, cap', w1, rfl, R1, R2, R3, rfl⟩
end Go.Proofs.Ybulkbmxm.lawS3184CStranger
