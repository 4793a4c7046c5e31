/- zzs3185bhas; slices.Equal at strings. -/
import Derived.Test.YbulkbmyaFmtRows
import Derived.WalkKit
import Derived.WalkSpells
import Derived.WalkSmall
import Derived.BigQuiet
namespace Go.Proofs.YbulkbmyaFmt.lawS3185BReads
open Go.RowKit
set_option linter.unusedVariables false

/-- The strings l lie from a on. -/
def StrsAt (w : World) (a : Option Addr) (l : List ByteArray) : Prop :=
  0 < l.length → ∃ b o, a = some ⟨b, o, none⟩ ∧ b < w.heap.size ∧ ∀ i, i < l.length → w.cell? ⟨b, o + i, none⟩ = some (.string (l.getD i ⟨#[]⟩))

theorem StrsAt.below {w w' : World} {a : Option Addr} {l : List ByteArray} (h : StrsAt w a l) (hb : Below w.heap.size w w') : StrsAt w' a l := by
  intro h0
  obtain ⟨g, o, e, hg, hc⟩ := h h0
  have := hb.size
  exact ⟨g, o, e, by omega, fun i hi => (hb.cell (p := ⟨g, o + i, none⟩) hg).trans (hc i hi)⟩

theorem bne_bytes {a b : ByteArray} (h : a ≠ b) : (a.toList == b.toList) = false := by
  refine beq_eq_false_iff_ne.2 fun e => h ?_
  rw [ByteArray.toList_eq, ByteArray.toList_eq] at e
  exact ByteArray.ext (Array.toList_inj.1 e)

set_option maxHeartbeats 400000 in
set_option maxRecDepth 100000 in
theorem bhas_either (a : Option Addr) (cap n : Nat) (l : List ByteArray) (s : ByteArray) (w : World) (hn : l.length = n) (hbig : n ≤ 100000) (h : Hid (StrsAt w a l)) :
    Calls Ybaf.prog 7 #[.slice a n cap, .string s] w fun e w' => ((s ∈ l ∧ e = .returned (.bool true)) ∨ (s ∉ l ∧ e = .returned (.bool false))) ∧ w = w' := by
  have HN : Hid (l.length = n) := hn
  clear hn
  go_enter Ybaf.func7, Ybaf.ntmps7
  go_wp2
  go_loop [8] (fun i => ∃ k : Nat, k ≤ n ∧ i = .int .i64 k ∧ ∀ j, j < k → l.getD j ⟨#[]⟩ ≠ s) (fun i => n - (intOf i).toNat)
  case atStart => exact ⟨0, Nat.zero_le _, rfl, fun j h => by omega⟩
  case round =>
    obtain ⟨k, hk, rfl, hno⟩ := hrel
    have HNO : Hid (∀ j, j < k → l.getD j ⟨#[]⟩ ≠ s) := hno
    clear hno
    by_cases hlt : k < n
    · obtain ⟨g, o, rfl, hg, hc⟩ := h.out (by rw [HN.out]; omega)
      have hc1 := hc k (by rw [HN.out]; exact hlt)
      clear hc
      obtain ⟨t, ht⟩ : ∃ t, l.getD k ⟨#[]⟩ = t := ⟨_, rfl⟩
      rw [ht] at hc1
      have HT : Hid (l.getD k ⟨#[]⟩ = t) := ht
      clear ht
      by_cases hts : t = s
      · have HM : Hid (s ∈ l) := show s ∈ l by
          rw [← hts, ← HT.out]
          have : k < l.length := by rw [HN.out]; exact hlt
          rw [List.getD_eq_getElem?_getD, List.getElem?_eq_getElem this]
          exact List.getElem_mem _
        subst hts
        go_wp2_with fail
        go_ret
        exact ⟨.inl ⟨HM.out, rfl⟩, rfl⟩
      · have hb := bne_bytes hts
        have HM : Hid (t ≠ s) := hts
        clear hts
        go_wp2_with fail
        go_round
        case rel => exact ⟨k + 1, by omega, by go_num, fun j hj => by
          by_cases e : j = k
          · subst e; rw [HT.out]; exact HM.out
          · exact HNO.out j (by omega)⟩
        case measure => simp [intOf]; omega
    · obtain rfl : k = n := by omega
      have HM : Hid (s ∉ l) := show s ∉ l from fun hm => by
        obtain ⟨i, hi, e⟩ := List.getElem_of_mem hm
        refine HNO.out i (by rw [← HN.out]; exact hi) ?_
        rw [List.getD_eq_getElem?_getD, List.getElem?_eq_getElem hi]
        exact e
      go_wp2_with fail
      go_ret
      exact ⟨.inr ⟨HM.out, rfl⟩, rfl⟩

theorem bhas_yes (a : Option Addr) (cap n : Nat) (l : List ByteArray) (s : ByteArray) (w : World) (hn : l.length = n) (hbig : n ≤ 100000) (h : StrsAt w a l) (hm : s ∈ l) :
    Calls Ybaf.prog 7 #[.slice a n cap, .string s] w fun e w' => e = .returned (.bool true) ∧ w = w' := by
  refine (bhas_either a cap n l s w hn hbig h).mono ?_
  rintro _ _ ⟨⟨_, rfl⟩ | ⟨hn, _⟩, rfl⟩
  · exact ⟨rfl, rfl⟩
  · exact absurd hm hn
theorem bhas_no (a : Option Addr) (cap n : Nat) (l : List ByteArray) (s : ByteArray) (w : World) (hn : l.length = n) (hbig : n ≤ 100000) (h : StrsAt w a l) (hm : s ∉ l) :
    Calls Ybaf.prog 7 #[.slice a n cap, .string s] w fun e w' => e = .returned (.bool false) ∧ w = w' := by
  refine (bhas_either a cap n l s w hn hbig h).mono ?_
  rintro _ _ ⟨⟨hy, _⟩ | ⟨_, rfl⟩, rfl⟩
  · exact absurd hy hm
  · exact ⟨rfl, rfl⟩

set_option maxHeartbeats 400000 in
set_option maxRecDepth 100000 in
theorem equal_any (a a' : Option Addr) (cap cap' n : Nat) (l : List ByteArray) (w : World) (hn : l.length = n) (hbig : n ≤ 100000) (h : Hid (StrsAt w a l)) (h' : Hid (StrsAt w a' l)) :
    Calls Ybaf.prog 9 #[.slice a n cap, .slice a' n cap'] w fun e w' => e = .returned (.bool true) ∧ Below w.heap.size w w' := by
  have HN : Hid (l.length = n) := hn
  clear hn
  go_enter Ybaf.func9, Ybaf.ntmps9
  go_wp2
  go_loopw [13] (fun i wr => ∃ k : Nat, k ≤ n ∧ i = .int .i64 k ∧ Below w.heap.size w wr) (fun i _ => n - (intOf i).toNat)
  case atStart => exact ⟨0, Nat.zero_le _, rfl, Below.refl _ _⟩
  case round =>
    obtain ⟨k, hk, rfl, hb⟩ := hrel
    have HB : Hid (Below w.heap.size w wr) := hb
    clear hb
    by_cases hlt : k < n
    · obtain ⟨g, o, rfl, hg, hc⟩ := (h.out.below HB.out) (by rw [HN.out]; omega)
      obtain ⟨g', o', rfl, hg', hc'⟩ := (h'.out.below HB.out) (by rw [HN.out]; omega)
      have hc1 := hc k (by rw [HN.out]; exact hlt)
      have hc2 := hc' k (by rw [HN.out]; exact hlt)
      clear hc hc'
      generalize l.getD k ⟨#[]⟩ = t at hc1 hc2
      go_wp2_with fail
      go_quiet (fail)
      go_wp2_with fail
      go_roundw
      case rel => exact ⟨k + 1, by omega, by go_num, below_drewN HB.out _⟩
      case measure => simp [intOf]; omega
    · obtain rfl : k = n := by omega
      go_wp2_with fail
      go_ret
      exact ⟨rfl, HB.out⟩
end Go.Proofs.YbulkbmyaFmt.lawS3185BReads
