/- slices.Contains over the strings seen so far. -/
import Derived.Test.YbulkbmyaCD
namespace Go.Proofs.Ybulkbmya.laws
open Go.RowKit Go.Maps

/-- The strings l lie from a on. -/
def Strs (w : World) (a : Option Addr) (l : List ByteArray) : Prop :=
  0 < l.length → ∃ g, a = some ⟨g, 0, none⟩ ∧ g < w.heap.size ∧ ∀ i, i < l.length → w.cell? ⟨g, i, none⟩ = some (.string (l.getD i ⟨#[]⟩))

theorem Strs.below {w w' : World} {a : Option Addr} {l : List ByteArray} (h : Strs w a l) (hb : Below w.heap.size w w') : Strs w' a l := by
  intro h0
  obtain ⟨g, e, hg, hc⟩ := h h0
  have := hb.size
  exact ⟨g, e, by omega, fun i hi => (hb.cell (p := ⟨g, i, none⟩) hg).trans (hc i hi)⟩

/-- What slices.Index says. -/
def IndexSays (l : List ByteArray) (s : ByteArray) (e : Ending) : Prop := (∃ j : Nat, s ∈ l ∧ j ≤ 100000 ∧ e = .returned (.int .i64 j)) ∨ (s ∉ l ∧ e = .returned (.int .i64 (-1)))

set_option maxHeartbeats 400000 in
set_option maxRecDepth 100000 in
theorem sindex_any (a : Option Addr) (cap n : Nat) (l : List ByteArray) (s : ByteArray) (w : World) (hn : l.length = n) (hbig : n ≤ 100000) (h : Hid (Strs w a l)) :
    Calls Yba.prog 14 #[.slice a n cap, .string s] w fun e w' => IndexSays l s e ∧ w = w' := by
  have HN : Hid (l.length = n) := hn
  clear hn
  go_enter Yba.func14, Yba.ntmps14
  go_wp2
  go_loop [8] (fun i => ∃ k : Nat, k ≤ n ∧ i = .int .i64 k ∧ ∀ j, j < k → l.getD j ⟨#[]⟩ ≠ s) (fun i => n - (intOf i).toNat)
  case atStart => exact ⟨0, Nat.zero_le _, rfl, fun j h => by omega⟩
  case round =>
    obtain ⟨k, hk, rfl, hno⟩ := hrel
    have HNO : Hid (∀ j, j < k → l.getD j ⟨#[]⟩ ≠ s) := hno
    clear hno
    by_cases hlt : k < n
    · obtain ⟨g, rfl, hg, hc⟩ := h.out (by rw [HN.out]; omega)
      have hc1 := hc k (by rw [HN.out]; exact hlt)
      clear hc
      obtain ⟨t, ht⟩ : ∃ t, l.getD k ⟨#[]⟩ = t := ⟨_, rfl⟩
      rw [ht] at hc1
      have HT : Hid (l.getD k ⟨#[]⟩ = t) := ht
      clear ht
      by_cases hts : s = t
      · have HM : Hid (s ∈ l) := show s ∈ l by
          rw [hts, ← HT.out]
          have : k < l.length := by rw [HN.out]; exact hlt
          rw [List.getD_eq_getElem?_getD, List.getElem?_eq_getElem this]
          exact List.getElem_mem _
        subst hts
        go_wp2_with fail
        go_ret
        exact ⟨.inl ⟨k, HM.out, by omega, rfl⟩, rfl⟩
      · have hb := ne_bytes hts
        have HM : Hid (t ≠ s) := fun e => hts e.symm
        clear hts
        go_wp2_with fail
        go_round
        case rel => exact ⟨k + 1, by omega, by go_num, fun j hj => by
          by_cases e : j = k
          · subst e; rw [HT.out]; exact HM.out
          · exact HNO.out j (by omega)⟩
        case measure => simp [intOf]; omega
    · obtain rfl : k = n := by omega
      have HM : Hid (s ∉ l) := show s ∉ l from fun hm => by
        obtain ⟨i, hi, e⟩ := List.getElem_of_mem hm
        refine HNO.out i (by rw [← HN.out]; exact hi) ?_
        rw [List.getD_eq_getElem?_getD, List.getElem?_eq_getElem hi]
        exact e
      go_wp2_with fail
      go_ret
      exact ⟨.inr ⟨HM.out, rfl⟩, rfl⟩

set_option maxHeartbeats 400000 in
theorem scontains_either (a : Option Addr) (cap n : Nat) (l : List ByteArray) (s : ByteArray) (w : World) (hn : l.length = n) (hbig : n ≤ 100000) (h : Hid (Strs w a l)) :
    Calls Yba.prog 11 #[.slice a n cap, .string s] w fun e w' => ((s ∈ l ∧ e = .returned (.bool true)) ∨ (s ∉ l ∧ e = .returned (.bool false))) ∧ w = w' := by
  have HN : Hid (l.length = n) := hn
  clear hn
  go_enter Yba.func11, Yba.ntmps11
  go_wp2_with (go_at_call 14; refine (sindex_any a cap n l s w HN.out hbig h).mono ?_; rintro _ _ ⟨⟨j, hm, hj, rfl⟩ | ⟨hm, rfl⟩, rfl⟩)
  · go_ret
    exact ⟨.inl ⟨hm, by simp⟩, rfl⟩
  · go_ret
    exact ⟨.inr ⟨hm, by simp⟩, rfl⟩
theorem scontains_yes (a : Option Addr) (cap n : Nat) (l : List ByteArray) (s : ByteArray) (w : World) (hn : l.length = n) (hbig : n ≤ 100000) (h : Strs w a l) (hm : s ∈ l) :
    Calls Yba.prog 11 #[.slice a n cap, .string s] w fun e w' => e = .returned (.bool true) ∧ w = w' := by
  refine (scontains_either a cap n l s w hn hbig h).mono ?_
  rintro _ _ ⟨⟨_, rfl⟩ | ⟨hn, _⟩, rfl⟩
  · exact ⟨rfl, rfl⟩
  · exact absurd hm hn
theorem scontains_no (a : Option Addr) (cap n : Nat) (l : List ByteArray) (s : ByteArray) (w : World) (hn : l.length = n) (hbig : n ≤ 100000) (h : Strs w a l) (hm : s ∉ l) :
    Calls Yba.prog 11 #[.slice a n cap, .string s] w fun e w' => e = .returned (.bool false) ∧ w = w' := by
  refine (scontains_either a cap n l s w hn hbig h).mono ?_
  rintro _ _ ⟨⟨hy, _⟩ | ⟨_, rfl⟩, rfl⟩
  · exact absurd hy hm
  · exact ⟨rfl, rfl⟩
end Go.Proofs.Ybulkbmya.laws
