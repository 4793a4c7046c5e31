/- wire.LawS3184BPut: the law's own walk. -/
import Derived.Test.YbulkbmxmPutWalk
namespace Go.Proofs.Ybulkbmxm.lawS3184BPut
open Go.RowKit

theorem info5 : (Yba.prog.info? 5).map (fun i => (i.zero, i.size, i.bytes)) = some (some (.int .u8 0), 1, 1) := by kernel_rfl
theorem size5 : (Yba.prog.info? 5).map (·.size) = some 1 := by kernel_rfl

/-- The row as 'make' leaves it. -/
def Zs (n : Nat) : List Value := List.replicate n (.int .u8 0)
theorem Zs_length (n : Nat) : (Zs n).length = n := by simp [Zs]
/-- The bytes as cells. -/
def Bs (zs : List Int) : List Value := zs.map (Value.int .u8)
theorem Bs_length (zs : List Int) : (Bs zs).length = zs.length := by simp [Bs]

theorem row1 {w w1 : World} {base n : Nat} {z : Value} (h : w1.ownsRow base 5 1 (.slice (some ⟨w.heap.size, 0, none⟩) n n) n (madeCells z.cells (n * 1)).toList) (hz : z = .int .u8 0) : w1.heap[w.heap.size]? = some (.cells (Zs n).toArray 5 (0, 0)) := by
  have := row_of_owns h
  subst hz
  rw [this]
  have e : (madeCells (Value.cells (.int .u8 0)) (n * 1)).toList = Zs n := by
    rw [Nat.mul_one]; exact toList_madeCells_one _ _
  rw [e]

theorem copy_pos {w w1 : World} {a : Option Addr} {len : Nat} {zs : List Int} (hz : zs.length = len)
    (hc : ∀ j, j < len → ∃ b o, a = some ⟨b, o, none⟩ ∧ b < w.heap.size ∧ w.cell? ⟨b, o + j, none⟩ = some (.int .u8 (zs.getD j 0))) (hb : Below w.heap.size w w1) :
    0 < (Bs zs).length → some (⟨w.heap.size, 0, none⟩ : Addr) = some ⟨w.heap.size, 0, none⟩ ∧ ∃ ad, a = some ad ∧ ∀ j v, (Bs zs)[j]? = some v → w1.cell? (ad.add j) = some v := by
  intro h
  rw [Bs_length] at h
  obtain ⟨b, o, rfl, _, _⟩ := hc 0 (by omega)
  refine ⟨rfl, _, rfl, ?_⟩
  intro j v hv
  have hj : j < zs.length := by
    have := (List.getElem?_eq_some_iff.1 hv).1
    rwa [Bs_length] at this
  obtain ⟨b', o', he, hb', hcell⟩ := hc j (by omega)
  simp at he
  obtain ⟨rfl, rfl⟩ := he
  have e : (⟨b, o, none⟩ : Addr).add j = ⟨b, o + j, none⟩ := by simp [Addr.add]
  rw [e, hb.cell (p := ⟨b, o + j, none⟩) hb', hcell]
  simp [Bs, List.getElem?_map, List.getElem?_eq_getElem hj] at hv
  simp [List.getD, List.getElem?_eq_getElem hj, hv]

theorem Bs_one (zs : List Int) : ∀ v ∈ Bs zs, v.oneCell' = true := ints_oneCell _ _

/-- The row behind the copy, cell by cell. -/
theorem splice_at (zs : List Int) (len k : Nat) (hz : zs.length = len) (hk : k < len + 2) : (splice (Zs (len + 2)) 0 (Bs zs))[k]? = some (.int .u8 (if k < len then zs.getD k 0 else 0)) := by
  unfold splice
  simp only [List.take_zero, List.nil_append, Nat.zero_add, Bs_length, hz]
  by_cases h : k < len
  · rw [List.getElem?_append_left (by rw [Bs_length]; omega), if_pos h]
    simp [Bs, List.getElem?_map, List.getElem?_eq_getElem (show k < zs.length by omega), List.getD]
  · rw [List.getElem?_append_right (by rw [Bs_length]; omega), if_neg h]
    simp only [Zs, Bs_length, hz, List.drop_replicate]
    rw [List.getElem?_replicate, if_pos (by omega)]
theorem splice_len (zs : List Int) (len : Nat) (hz : zs.length = len) : (splice (Zs (len + 2)) 0 (Bs zs)).length = len + 2 := by
  rw [length_splice _ _ _ (by rw [Bs_length, Zs_length]; omega), Zs_length]

theorem data_kept {w w1 : World} {a : Option Addr} {len : Nat} {zs : List Int}
    (hc : ∀ j, j < len → ∃ b o, a = some ⟨b, o, none⟩ ∧ b < w.heap.size ∧ w.cell? ⟨b, o + j, none⟩ = some (.int .u8 (zs.getD j 0))) (hb : Below w.heap.size w w1) :
    ∀ j, j < len → ∃ b o, a = some ⟨b, o, none⟩ ∧ w1.cell? ⟨b, o + j, none⟩ = some (.int .u8 (zs.getD j 0)) := by
  intro j hj
  obtain ⟨b, o, h1, h2, h3⟩ := hc j hj
  exact ⟨b, o, h1, (hb.cell (p := ⟨b, o + j, none⟩) h2).trans h3⟩

theorem cells1 {w3 : World} {B len o : Nat} {zs : List Int} {v : Int} (hz : zs.length = len) (hr : w3.heap[B]? = some (.cells ((splice (Zs (len + 2)) 0 (Bs zs)).set o (.int .u8 (v % 256))).toArray 5 (0, 0))) :
    ∀ k, k < len + 2 → w3.cell? ⟨B, k, none⟩ = some (.int .u8 (if k = o then v % 256 else if k < len then zs.getD k 0 else 0)) := by
  intro k hk
  rw [cell_of_row w3 B k _ _ _ hr]
  simp only [List.getElem?_toArray]
  by_cases h : k = o
  · subst h
    rw [List.getElem?_set_self (by rw [splice_len _ _ hz]; exact hk), if_pos rfl]
  · rw [List.getElem?_set_ne (by omega), splice_at _ _ _ hz hk, if_neg h]

theorem and255 (n : Int) : bits .and .i64 n 255 = n % 256 := by
  have h255 : (BitVec.ofInt 64 255).toNat = 2 ^ 8 - 1 := by decide
  have key : (BitVec.ofInt 64 n &&& BitVec.ofInt 64 255).toNat = (n % ((2 ^ 64 : Nat) : Int)).toNat % 2 ^ 8 := by
    rw [BitVec.toNat_and, BitVec.toNat_ofInt, h255, Nat.and_two_pow_sub_one_eq_mod]
  show IntKind.i64.wrap ((BitVec.ofInt 64 n &&& BitVec.ofInt 64 255).toNat : Nat) = n % 256
  rw [key, IntKind.wrap_i64]
  omega

theorem wrap_small (x : Int) (h0 : 0 ≤ x) (h1 : x ≤ 2000) : wrap64 x = x := by
  unfold wrap64; omega

theorem cells2 {w3 : World} {B len o : Nat} {zs : List Int} {v : Int} (hz : zs.length = len) (hr : w3.heap[B]? = some (.cells (((splice (Zs (len + 2)) 0 (Bs zs)).set o (.int .u8 (IntKind.u16.wrap v / 256))).set (o + 1) (.int .u8 (IntKind.u16.wrap v % 256))).toArray 5 (0, 0))) :
    ∀ k, k < len + 2 → w3.cell? ⟨B, k, none⟩ = some (.int .u8 (if k = o + 1 then v % 256 else if k = o then v / 256 % 256 else if k < len then zs.getD k 0 else 0)) := by
  intro k hk
  have e1 : IntKind.u16.wrap v / 256 = v / 256 % 256 := by show v % 65536 / 256 = _; omega
  have e2 : IntKind.u16.wrap v % 256 = v % 256 := by show v % 65536 % 256 = _; omega
  rw [cell_of_row w3 B k _ _ _ hr, e1, e2]
  simp only [List.getElem?_toArray]
  by_cases h : k = o + 1
  · subst h
    rw [List.getElem?_set_self (by rw [List.length_set, splice_len _ _ hz]; exact hk), if_pos rfl]
  · rw [List.getElem?_set_ne (by omega), if_neg h]
    by_cases h : k = o
    · subst h
      rw [List.getElem?_set_self (by rw [splice_len _ _ hz]; exact hk), if_pos rfl]
    · rw [List.getElem?_set_ne (by omega), splice_at _ _ _ hz hk, if_neg h]

set_option maxHeartbeats 1000000 in
set_option maxRecDepth 100000 in
theorem core1 (a : Option Addr) (len cap : Nat) (off v : Int) (zs : List Int) (w : World) (hlen : len ≤ 1024) (hz : Hid (zs.length = len)) (ho0 : 0 ≤ off) (ho1 : off ≤ 18446744073709551615)
    (hc : Hid (∀ j, j < len → ∃ b o, a = some ⟨b, o, none⟩ ∧ b < w.heap.size ∧ w.cell? ⟨b, o + j, none⟩ = some (.int .u8 (zs.getD j 0)))) :
    Calls Yba.prog 5 #[.slice a len cap, .int .u64 off, .int .i64 1, .int .i64 v] w fun e w' => e = .returned (.bool true) ∧ Below w.heap.size w w' := by
  obtain ⟨i0, hi, hz0, hz1, hz2⟩ := info_parts info5
  have hmin : (Bs zs).length = Nat.min len (len + 2) := by rw [Bs_length, hz.out]; exact (Nat.min_eq_left (by omega)).symm
  have HM : Hid _ := hmin
  clear hmin
  obtain ⟨o, ho, hol⟩ : ∃ o : Nat, wrap64 (off % (↑len + 2)) = (o : Int) ∧ o < len + 2 := by
    have h1 := Int.emod_nonneg off (show (len : Int) + 2 ≠ 0 by omega)
    have h2 := Int.emod_lt_of_pos off (show (0 : Int) < (len : Int) + 2 by omega)
    exact ⟨(off % (↑len + 2)).toNat, by rw [wrap_small _ h1 (by omega)]; omega, by omega⟩
  go_enter Yba.func5, Yba.ntmps5
  go_wp2_with (first
    | (at_make; refine wpList_make_full _ rfl (.tmp 20) (.tmp 20) 30 rfl w.heap.size 5 i0 (.int .u8 0) 1 Yba.underlying30 hi hz0 hz1 .i64 .i64 _ _ (len + 2) rfl rfl (by omega) (by omega) (by rw [hz2]; omega) (by unfold maxLen; omega) (Nat.le_refl _) ?_; intro w1 hown hgrow; have hrow := row1 hown rfl; have hbel : Below w.heap.size w w1 := (Below.refl _ _).grown hgrow (Nat.le_refl _) (fun _ h => by cases h); clear hown hgrow)
    | (refine wpList_copy_splice rfl (.tmp 22) (.tmp 23) 30 30 rfl 5 Yba.underlying30 size5 _ _ _ _ _ _ rfl rfl w.heap.size 0 (Zs (len + 2)) 5 hrow (Bs zs) HM.out (copy_pos hz.out hc.out hbel) (by rw [Bs_length, Zs_length, hz.out]; omega) (Bs_one zs) w.heap.size w hbel (Nat.le_refl _) ?_; intro w2 HG hbel2; rw [Bs_length, hz.out]))
  rw [ho]
  refine (row_put1 w.heap.size o (len + 2) (len + 2) v (splice (Zs (len + 2)) 0 (Bs zs)) _ (splice_len _ _ hz.out) hol (by rw [Below.heap_alloc _ _ _ (lt_of_block HG.out)]; exact HG.out)).mono ?_
  rintro e w3 ⟨rfl, hr3, hb3⟩
  have HC : Hid _ := cells1 hz.out hr3
  have hb : Below w.heap.size w w3 := (hbel2.alloc (Nat.le_of_lt (lt_of_block HG.out)) _).trans hb3
  have HD : Hid _ := data_kept hc.out hb
  clear hr3 hb3 HG hc hrow hbel hi hz0 hz1 hz2 HM ho
  have hand := and255
  go_wp2_with fail
  go_loop [13] (fun i => ∃ k : Nat, k ≤ len + 2 ∧ i = .int .i64 k) (fun i => (len + 2) - (intOf i).toNat)
  case atStart => exact ⟨0, Nat.zero_le _, rfl⟩
  case round =>
    obtain ⟨k, hk, rfl⟩ := hrel
    by_cases hlt : k < len + 2
    · have hcell := HC.out k hlt
      by_cases hko : k = o
      · subst hko
        rw [if_pos rfl] at hcell
        by_cases hkl : k < len
        · obtain ⟨b, o', rfl, hd⟩ := HD.out k hkl
          clear HD HC
          go_wp2
          go_round
          case rel => exact ⟨k + 1, by omega, by go_num⟩
          case measure => simp [intOf]; omega
        · clear HD HC
          go_wp2
          go_round
          case rel => exact ⟨k + 1, by omega, by go_num⟩
          case measure => simp [intOf]; omega
      · rw [if_neg hko] at hcell
        have hko' : ((k : Int) == (o : Int)) = false := by simp; omega
        by_cases hkl : k < len
        · obtain ⟨b, o', rfl, hd⟩ := HD.out k hkl
          rw [if_pos hkl] at hcell
          clear HD HC
          go_wp2
          go_round
          case rel => exact ⟨k + 1, by omega, by go_num⟩
          case measure => simp [intOf]; omega
        · rw [if_neg hkl] at hcell
          clear HD HC
          go_wp2
          go_round
          case rel => exact ⟨k + 1, by omega, by go_num⟩
          case measure => simp [intOf]; omega
    · clear HD HC
      go_wp2
      go_ret
      exact ⟨rfl, hb⟩
end Go.Proofs.Ybulkbmxm.lawS3184BPut
