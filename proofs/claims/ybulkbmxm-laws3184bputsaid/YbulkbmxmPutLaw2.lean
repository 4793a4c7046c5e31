/- wire.LawS3184BPut: the law's own walk, at a width other than 1. -/
import Derived.Test.YbulkbmxmPutLaw
namespace Go.Proofs.Ybulkbmxm.lawS3184BPut
open Go.RowKit

set_option maxHeartbeats 1000000 in
set_option maxRecDepth 100000 in
theorem core2 (a : Option Addr) (len cap : Nat) (off v wd : Int) (hwd : (wd == 1) = false) (zs : List Int) (w : World) (hlen : len ≤ 1024) (hz : Hid (zs.length = len)) (ho0 : 0 ≤ off) (ho1 : off ≤ 18446744073709551615)
    (hc : Hid (∀ j, j < len → ∃ b o, a = some ⟨b, o, none⟩ ∧ b < w.heap.size ∧ w.cell? ⟨b, o + j, none⟩ = some (.int .u8 (zs.getD j 0)))) :
    Calls Yba.prog 5 #[.slice a len cap, .int .u64 off, .int .i64 wd, .int .i64 v] w fun e w' => e = .returned (.bool true) ∧ Below w.heap.size w w' := by
  obtain ⟨i0, hi, hz0, hz1, hz2⟩ := info_parts info5
  have hmin : (Bs zs).length = Nat.min len (len + 2) := by rw [Bs_length, hz.out]; exact (Nat.min_eq_left (by omega)).symm
  have HM : Hid _ := hmin
  clear hmin
  obtain ⟨o, ho, hol⟩ : ∃ o : Nat, wrap64 (off % (↑len + 1)) = (o : Int) ∧ o + 1 < len + 2 := by
    have h1 := Int.emod_nonneg off (show (len : Int) + 1 ≠ 0 by omega)
    have h2 := Int.emod_lt_of_pos off (show (0 : Int) < (len : Int) + 1 by omega)
    exact ⟨(off % (↑len + 1)).toNat, by rw [wrap_small _ h1 (by omega)]; omega, by omega⟩
  go_enter Yba.func5, Yba.ntmps5
  go_wp2_with (first
    | (at_make; refine wpList_make_full _ rfl (.tmp 20) (.tmp 20) 30 rfl w.heap.size 5 i0 (.int .u8 0) 1 Yba.underlying30 hi hz0 hz1 .i64 .i64 _ _ (len + 2) rfl rfl (by omega) (by omega) (by rw [hz2]; omega) (by unfold maxLen; omega) (Nat.le_refl _) ?_; intro w1 hown hgrow; have hrow := row1 hown rfl; have hbel : Below w.heap.size w w1 := (Below.refl _ _).grown hgrow (Nat.le_refl _) (fun _ h => by cases h); clear hown hgrow)
    | (refine wpList_copy_splice rfl (.tmp 22) (.tmp 23) 30 30 rfl 5 Yba.underlying30 size5 _ _ _ _ _ _ rfl rfl w.heap.size 0 (Zs (len + 2)) 5 hrow (Bs zs) HM.out (copy_pos hz.out hc.out hbel) (by rw [Bs_length, Zs_length, hz.out]; omega) (Bs_one zs) w.heap.size w hbel (Nat.le_refl _) ?_; intro w2 HG hbel2; rw [Bs_length, hz.out]))
  rw [ho]
  refine (row_put2 w.heap.size o (len + 2) (len + 2) v wd hwd (splice (Zs (len + 2)) 0 (Bs zs)) _ (splice_len _ _ hz.out) hol (Nat.le_refl _) (by rw [Below.heap_alloc _ _ _ (lt_of_block HG.out)]; exact HG.out)).mono ?_
  rintro e w3 ⟨rfl, hr3, hb3⟩
  have HC : Hid _ := cells2 hz.out hr3
  have hb : Below w.heap.size w w3 := (hbel2.alloc (Nat.le_of_lt (lt_of_block HG.out)) _).trans hb3
  have HD : Hid _ := data_kept hc.out hb
  clear hr3 hb3 HG hc hrow hbel hi hz0 hz1 hz2 HM ho
  have hand := and255
  go_wp2_with fail
  go_loop [13] (fun i => ∃ k : Nat, k ≤ len + 2 ∧ i = .int .i64 k) (fun i => (len + 2) - (intOf i).toNat)
  case atStart => exact ⟨0, Nat.zero_le _, rfl⟩
  case round =>
    obtain ⟨k, hk, rfl⟩ := hrel
    by_cases hlt : k < len + 2
    · have hcell := HC.out k hlt
      by_cases hk1 : k = o + 1
      · rw [if_pos hk1] at hcell
        have hko' : ((k : Int) == (o : Int)) = false := by simp; omega
        have hko1 : ((k : Int) == (o : Int) + 1) = true := by simp; omega
        have HK : Hid _ := hk1
        clear hk1
        by_cases hkl : k < len
        · obtain ⟨b, o', rfl, hd⟩ := HD.out k hkl
          clear HD HC
          go_wp2
          go_round
          case rel => exact ⟨k + 1, by omega, by go_num⟩
          case measure => simp [intOf]; omega
        · clear HD HC
          go_wp2
          go_round
          case rel => exact ⟨k + 1, by omega, by go_num⟩
          case measure => simp [intOf]; omega
      · rw [if_neg hk1] at hcell
        have hko1 : ((k : Int) == (o : Int) + 1) = false := by simp; omega
        by_cases hko : k = o
        · rw [if_pos hko] at hcell
          have hko' : ((k : Int) == (o : Int)) = true := by simp; omega
          have HK : Hid _ := hko
          clear hko
          by_cases hkl : k < len
          · obtain ⟨b, o', rfl, hd⟩ := HD.out k hkl
            clear HD HC
            go_wp2
            go_round
            case rel => exact ⟨k + 1, by omega, by go_num⟩
            case measure => simp [intOf]; omega
          · clear HD HC
            go_wp2
            go_round
            case rel => exact ⟨k + 1, by omega, by go_num⟩
            case measure => simp [intOf]; omega
        · rw [if_neg hko] at hcell
          have hko' : ((k : Int) == (o : Int)) = false := by simp; omega
          by_cases hkl : k < len
          · obtain ⟨b, o', rfl, hd⟩ := HD.out k hkl
            rw [if_pos hkl] at hcell
            clear HD HC
            go_wp2
            go_round
            case rel => exact ⟨k + 1, by omega, by go_num⟩
            case measure => simp [intOf]; omega
          · rw [if_neg hkl] at hcell
            clear HD HC
            go_wp2
            go_round
            case rel => exact ⟨k + 1, by omega, by go_num⟩
            case measure => simp [intOf]; omega
    · clear HD HC
      go_wp2
      go_ret
      exact ⟨rfl, hb⟩

theorem long (a : Option Addr) (len cap : Nat) (off wd v : Int) (w : World) (hlen : 1024 < len) (hm : len ≤ 9223372036854775807) :
    Calls Yba.prog 5 #[.slice a len cap, .int .u64 off, .int .i64 wd, .int .i64 v] w fun e w' => e = .returned (.bool true) ∧ Below w.heap.size w w' := by
  go_enter Yba.func5, Yba.ntmps5
  go_wp2
  go_ret
  exact ⟨rfl, Below.refl _ _⟩
end Go.Proofs.Ybulkbmxm.lawS3184BPut
