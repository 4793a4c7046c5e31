/- (*rumorwire.round).find -/
import Derived.Test.YbulkbmxmStrB
namespace Go.Proofs.Ybulkbmxm.lawS3184CStranger
open Go.RowKit

/-- The frame at place j of the row F has the source p and no payload. -/
def FrameAt (w : World) (F j : Nat) (p : Int) : Prop :=
  w.cell? ⟨F, j * 5, none⟩ = some (.int .u64 0) ∧ w.cell? ⟨F, j * 5 + 1, none⟩ = some (.int .u64 0) ∧ w.cell? ⟨F, j * 5 + 2, none⟩ = some (.pointer none) ∧
  w.cell? ⟨F, j * 5 + 3, none⟩ = some (.int .u16 p) ∧ w.cell? ⟨F, j * 5 + 4, none⟩ = some (.slice none 0 0)

theorem FrameAt.below {w w' : World} {F j B : Nat} {p : Int} (h : FrameAt w F j p) (hF : F < B) (hb : Below B w w') : FrameAt w' F j p := by
  obtain ⟨h0, h1, h2, h3, h4⟩ := h
  exact ⟨(hb.cell (p := ⟨F, _, none⟩) hF).trans h0, (hb.cell (p := ⟨F, _, none⟩) hF).trans h1, (hb.cell (p := ⟨F, _, none⟩) hF).trans h2, (hb.cell (p := ⟨F, _, none⟩) hF).trans h3, (hb.cell (p := ⟨F, _, none⟩) hF).trans h4⟩

/-- Two nil handles are equal. -/
theorem nil_eq (w : World) : Sem.run Yba.prog (Op.equalIn 9997 44 (Value.pointer none) (Value.pointer none)) w = .ok true w := by kernel_rfl

set_option maxHeartbeats 1000000 in
set_option maxRecDepth 100000 in
theorem find_any (R F n cap : Nat) (ps : List Int) (s : Int) (w : World) (hn : n ≤ 1280) (hR : w.cell? ⟨R, 2, none⟩ = some (.slice (some ⟨F, 0, none⟩) n cap))
    (hF : F < w.heap.size) (hfr : Hid (∀ j, j < n → FrameAt w F j (ps.getD j 0))) :
    Calls Yba.prog 23 #[.pointer (some ⟨R, 0, none⟩), .agg #[.int .u64 0, .int .u64 0, .pointer none, .int .u16 s]] w fun e w' =>
      ((∃ j : Nat, j < n ∧ ps.getD j 0 = s ∧ (∀ i, i < j → ps.getD i 0 ≠ s) ∧ e = .returned (.tuple #[.int .i64 j, .bool true])) ∨ ((∀ i, i < n → ps.getD i 0 ≠ s) ∧ e = .returned (.tuple #[.int .i64 0, .bool false]))) ∧ Below w.heap.size w w' := by
  have hRb : R < w.heap.size := by have := block_lt_of_cell hR; simpa using this
  have hnil := nil_eq
  go_enter Yba.func23, Yba.ntmps23
  go_wp2_with fail
  go_loopw [13] (fun i wr => ∃ k : Nat, k ≤ n ∧ i = .int .i64 k ∧ (∀ i, i < k → ps.getD i 0 ≠ s) ∧ wr.heap[w.heap.size]? = some (.cells #[.int .u64 0, .int .u64 0, .pointer none, .int .u16 s] 50 (0, 0)) ∧ Below w.heap.size w wr) (fun i _ => n - (intOf i).toNat)
  case atStart => exact ⟨0, Nat.zero_le _, rfl, fun i h => absurd h (by omega), heap_alloc_new _ _, (Below.refl _ _).alloc (Nat.le_refl _) _⟩
  case round =>
    obtain ⟨k, hk, rfl, hne, hbox, hbel⟩ := hrel
    have HN : Hid _ := hne
    have s1 := lt_of_block hbox
    have b0 := cell_of_row wr w.heap.size 0 _ _ _ hbox
    have b1 := cell_of_row wr w.heap.size 1 _ _ _ hbox
    have b2 := cell_of_row wr w.heap.size 2 _ _ _ hbox
    have b3 := cell_of_row wr w.heap.size 3 _ _ _ hbox
    have HB : Hid _ := hbox
    simp at b0 b1 b2 b3
    clear hne hbox hR
    by_cases hlt : k < n
    · obtain ⟨f0, f1, f2, f3, f4⟩ := (hfr.out k hlt).below hF hbel
      clear hfr
      by_cases hp : ps.getD k 0 = s
      · have HP : Hid _ := hp
        rw [hp] at f3
        clear hp
        go_wp2_with fail
        go_ret2
        refine ⟨.inl ⟨k, hlt, HP.out, HN.out, rfl⟩, ?_⟩
        exact hbel.alloc (by omega) _
      · have hpb : (ps.getD k 0 == s) = false := by simpa using hp
        have HP : Hid _ := hp
        clear hp
        generalize ps.getD k 0 = z at f3 hpb
        go_wp2_with fail
        go_roundw
        case rel => exact ⟨k + 1, by omega, by go_num, fun i hi => by
          by_cases h : i < k
          · exact HN.out i h
          · obtain rfl : i = k := by omega
            exact HP.out, by rw [Below.heap_alloc _ _ _ s1]; exact HB.out, hbel.alloc (by omega) _⟩
        case measure => simp [intOf]; omega
    · obtain rfl : k = n := by omega
      clear hfr
      go_wp2_with fail
      go_ret2
      exact ⟨.inr ⟨HN.out, rfl⟩, hbel⟩
end Go.Proofs.Ybulkbmxm.lawS3184CStranger
