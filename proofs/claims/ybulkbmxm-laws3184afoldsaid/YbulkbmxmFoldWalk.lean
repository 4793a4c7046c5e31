/- cycle.LawS3184AFold: the walk. The world behind k rounds is the first one with one new block, the RoundTrips, whose skew is the running want. -/
import Derived.Test.YbulkbmxmRows
import Derived.WalkKit
namespace Go.Proofs.Ybulkbmxm.lawS3184AFold
open Go.RowKit

theorem saw_nil (d : Int) (w : World) : Calls Yba.prog 8 #[.pointer none, .int .i64 d] w fun e w' => e = .returned (.tuple #[]) ∧ w = w' := by
  go_enter Yba.func8, Yba.ntmps8
  go_wp2
  go_end0
  exact ⟨rfl, rfl⟩

theorem saw_some (w : World) (t s d : Int) :
    Calls Yba.prog 8 #[.pointer (some ⟨w.heap.size, 0, none⟩), .int .i64 d] (w.alloc (.cells #[.int .i64 0, .int .i64 0, .int .i64 t, .int .i64 s] 25)) fun e w' => e = .returned (.tuple #[]) ∧ w' = w.alloc (.cells #[.int .i64 0, .int .i64 0, .int .i64 t, .int .i64 (if 0 < t ∧ s < d then d else s)] 25) := by
  by_cases h0 : 0 < t
  · by_cases h1 : s < d
    · rw [if_pos ⟨h0, h1⟩]
      go_enter Yba.func8, Yba.ntmps8
      go_wp2
      go_end0
      exact ⟨rfl, rfl⟩
    · rw [if_neg (fun h => h1 h.2)]
      go_enter Yba.func8, Yba.ntmps8
      go_wp2
      go_end0
      exact ⟨rfl, rfl⟩
  · rw [if_neg (fun h => h0 h.1)]
    go_enter Yba.func8, Yba.ntmps8
    go_wp2
    go_end0
    exact ⟨rfl, rfl⟩

theorem core (a : Option Addr) (len cap : Nat) (t s : Int) (w : World) (hlen : len ≤ 1024)
    (hc : ∀ j, j < len → ∃ b off z, a = some ⟨b, off, none⟩ ∧ b < w.heap.size ∧ w.cell? ⟨b, off + j, none⟩ = some (.int .i64 z)) :
    Calls Yba.prog 4 #[.int .i64 t, .int .i64 s, .slice a len cap] w fun e w' => e = .returned (.bool true) ∧ Below w.heap.size w w' := by
  go_enter Yba.func4, Yba.ntmps4
  go_wp2_with (first | (go_at_call 8; refine (saw_nil _ _).mono ?_; rintro e w' ⟨rfl, rfl⟩))
  go_loopw [9, 10] (fun v i wr => ∃ (k : Nat) (c : Int), k ≤ len ∧ i = .int .i64 k ∧ v = .int .i64 c ∧ wr = w.alloc (.cells #[.int .i64 0, .int .i64 0, .int .i64 t, .int .i64 c] 25)) (fun _ i _ => len - (intOf i).toNat)
  case atStart => exact ⟨0, s, Nat.zero_le _, rfl, rfl, rfl⟩
  case round =>
    obtain ⟨k, c, hk, rfl, rfl, rfl⟩ := hrel
    by_cases hlt : k < len
    · obtain ⟨b, off, z, rfl, hb, hz⟩ := hc k hlt
      clear hc
      by_cases h0 : 0 < t
      · by_cases h1 : c < z
        · go_wp2_with (first | (go_at_call 8; refine (saw_some _ _ _ _).mono ?_; rintro e w' ⟨rfl, rfl⟩; rw [if_pos ⟨h0, h1⟩]))
          go_roundw
          case rel => exact ⟨k + 1, z, by omega, by go_num, rfl, rfl⟩
          case measure => simp [intOf]; omega
        · go_wp2_with (first | (go_at_call 8; refine (saw_some _ _ _ _).mono ?_; rintro e w' ⟨rfl, rfl⟩; rw [if_neg (fun h => absurd h.2 (by omega))]))
          go_roundw
          case rel => exact ⟨k + 1, c, by omega, by go_num, rfl, rfl⟩
          case measure => simp [intOf]; omega
      · go_wp2_with (first | (go_at_call 8; refine (saw_some _ _ _ _).mono ?_; rintro e w' ⟨rfl, rfl⟩; rw [if_neg (fun h => absurd h.1 (by omega))]))
        go_roundw
        case rel => exact ⟨k + 1, c, by omega, by go_num, rfl, rfl⟩
        case measure => simp [intOf]; omega
    · clear hc
      go_wp2
      go_ret
      exact ⟨rfl, (Below.refl _ _).alloc (Nat.le_refl _) _⟩

theorem long (a : Option Addr) (len cap : Nat) (t s : Int) (w : World) (hlen : 1024 < len) (hm : len ≤ 9223372036854775807) :
    Calls Yba.prog 4 #[.int .i64 t, .int .i64 s, .slice a len cap] w fun e w' => e = .returned (.bool true) ∧ Below w.heap.size w w' := by
  go_enter Yba.func4, Yba.ntmps4
  go_wp2
  go_ret
  exact ⟨rfl, Below.refl _ _⟩
end Go.Proofs.Ybulkbmxm.lawS3184AFold
