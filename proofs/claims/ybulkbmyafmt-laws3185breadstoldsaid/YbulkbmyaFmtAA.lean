/- tiergate.LawS3185AReads: the paths; a fault recorded. -/
import Derived.Test.YbulkbmyaFmtRows
import Derived.WalkKit
import Derived.WalkSpells
import Derived.Deep.AppendLies
namespace Go.Proofs.YbulkbmyaFmt.lawS3185AReads
open Go.RowKit

/-- A member's path. -/
def mpath (p n : ByteArray) : ByteArray := if p.toList.isEmpty then n else p ++ ⟨#[46]⟩ ++ n

theorem nil_of_isEmpty {p : ByteArray} (h : p.toList.isEmpty = true) : p = ⟨#[]⟩ := by
  have h1 : p.toList = [] := by simpa using h
  have h2 : p.data.toList = [] := by rw [← ByteArray.toList_eq]; exact h1
  rcases p with ⟨d⟩
  rcases d with ⟨l⟩
  simp at h2
  rw [h2]

theorem path_any (p n : ByteArray) (w : World) (h1 : p.size ≤ 140737488355328) (h2 : n.size ≤ 140737488355328) : Calls Ybaf.prog 6 #[.string p, .string n] w fun e w' => e = .returned (.string (mpath p n)) ∧ w = w' := by
  by_cases hp : p.toList.isEmpty = true
  · rw [mpath, if_pos hp]
    obtain rfl := nil_of_isEmpty hp
    clear hp
    go_enter Ybaf.func6, Ybaf.ntmps6
    go_wp2
    go_ret
    exact ⟨rfl, rfl⟩
  · rw [mpath, if_neg hp]
    have hp' : p.toList.isEmpty = false := by simpa using hp
    clear hp
    go_enter Ybaf.func6, Ybaf.ntmps6
    go_wp2
    go_ret
    exact ⟨rfl, rfl⟩

theorem member_any (p n : ByteArray) (w : World) (h1 : p.size ≤ 140737488355328) (h2 : n.size ≤ 140737488355328) : Calls Ybaf.prog 11 #[.string p, .string n] w fun e w' => e = .returned (.string (mpath p n)) ∧ w = w' := by
  by_cases hp : p.toList.isEmpty = true
  · rw [mpath, if_pos hp]
    obtain rfl := nil_of_isEmpty hp
    clear hp
    go_enter Ybaf.func11, Ybaf.ntmps11
    go_wp2
    go_ret
    exact ⟨rfl, rfl⟩
  · rw [mpath, if_neg hp]
    have hp' : p.toList.isEmpty = false := by simpa using hp
    clear hp
    go_enter Ybaf.func11, Ybaf.ntmps11
    go_wp2
    go_ret
    exact ⟨rfl, rfl⟩

theorem info33 : (Ybaf.prog.info? 33).map (fun i => (i.zero, i.size, i.bytes)) = some (some (.agg #[.string ⟨#[]⟩, .string ⟨#[]⟩]), 2, 32) := by kernel_rfl

theorem far {w : World} {o : Obj} {row : Option Nat} {w1 : World} (h : (w.alloc o).grownBy w1 row) (R i : Nat) (hR : R < w.heap.size) (hne : some R ≠ row) : w1.cell? ⟨R, i, none⟩ = w.cell? ⟨R, i, none⟩ ∧ w1.frozen? ⟨R, i, none⟩ = w.frozen? ⟨R, i, none⟩ :=
  ⟨(h.cell_far _ (by simp; omega) hne).trans (World.cell?_alloc_past _ R i hR), (h.frozen_far _ (by simp; omega) hne).trans (World.frozen?_alloc_past _ R i hR)⟩
theorem grown_alloc {w w1 : World} {o : Obj} {row : Option Nat} (h : (w.alloc o).grownBy w1 row) : w.grownBy w1 row :=
  ⟨h.os, h.tape, h.output, by have := h.size; simp at this; omega, fun k hk hne => (h.block k (by simp; omega) hne).trans (Below.heap_alloc _ _ _ hk)⟩

set_option maxHeartbeats 400000 in
set_option maxRecDepth 100000 in
theorem fault_any (base R n : Nat) (v : Value) (xs : List Value) (p q : ByteArray) (w : World) (hn : n ≤ 200000000) (hbase : base ≤ w.heap.size) (hR : w.cell? ⟨R, 0, none⟩ = some v) (hRf : w.frozen? ⟨R, 0, none⟩ = false) (hne : some R ≠ v.ownBlock)
    (hown : w.ownsRow base 33 2 v n xs) :
    Calls Ybaf.prog 10 #[.pointer (some ⟨R, 0, none⟩), .string p, .string q] w fun e w' =>
      ∃ g cap w1, e = .returned (.tuple #[]) ∧ w1.ownsRow base 33 2 (.slice (some ⟨g, 0, none⟩) (n + 1) cap) (n + 1) (xs ++ [.string p, .string q]) ∧ w.grownBy w1 v.ownBlock ∧ (v.ownBlock = some g ∨ w.heap.size ≤ g) ∧
        w' = w1.setCell ⟨R, 0, none⟩ (.slice (some ⟨g, 0, none⟩) (n + 1) cap) := by
  obtain ⟨i0, hi, hz0, hz1, hz2⟩ := info_parts info33
  have hRb : R < w.heap.size := by have := block_lt_of_cell hR; simpa using this
  have HO : Hid (w.ownsRow base 33 2 v n xs) := hown
  have HN : Hid (some R ≠ v.ownBlock) := hne
  clear hown hne
  go_enter Ybaf.func10, Ybaf.ntmps10
  go_wp2_with (at_builtin; refine wpList_append_lies _ rfl (.tmp 10) (.tmp 14) 23 rfl base 33 i0 _ 2 32 Ybaf.underlying23 hi hz0 hz1 hz2 rfl (by omega) v n xs rfl (HO.out.alloc _) ⟨w.heap.size, 0, none⟩ 1 1 [.string p, .string q] rfl rfl (World.news_of_block (cs := #[.string p, .string q]) (t := 33) (fr := (0, 0)) (heap_alloc_new w _)) (by simp [Value.oneCell']) (by omega) (by unfold maxLen; omega) (by omega) (by simp; omega) (w.heap.size + 1) (by simp) ?_; intro g cap w1 hown1 hgrow hat hlt; obtain ⟨c0, z0⟩ := far hgrow R 0 hRb HN.out; rw [hR] at c0; rw [hRf] at z0)
  go_end0
  exact ⟨g, cap, w1, rfl, hown1, grown_alloc hgrow, hat.imp id (fun h => by omega), rfl⟩
end Go.Proofs.YbulkbmyaFmt.lawS3185AReads
