/- tiergate.LawS3185C..: the argument, a slice of slices of strings, opened. -/
import Derived.Test.YbulkbmyaCA
import Derived.ProofKit
import Derived.OpenShut
import Derived.ShutString
import Derived.ChangeOld
import Derived.Deep.Slices
import Derived.Deep.Strs
namespace Go.Proofs.Ybulkbmya.laws
open Go.RowKit Go.Deep Go.ChangeShapes Go.WideShapes

theorem cells26 : Yba.prog.cellsOf 26 = 1 := by kernel_rfl
theorem cells9 : Yba.prog.cellsOf 9 = 1 := by kernel_rfl

theorem plain_zero {W : World} {a : Addr} {v : Value} (h : W.cell? (a.add 0) = some v) : ∃ b o, a = ⟨b, o, none⟩ := by
  obtain ⟨b, o, spot⟩ := a
  have hspot : spot = none := by simpa [Addr.add] using World.cell?_spot h
  subst hspot
  exact ⟨b, o, rfl⟩

/-- One list. -/
structure One where
  a : Option Addr
  L : Nat
  c : Nat
  K : Nat → ByteArray

theorem open_lists {H : Type} {enc : TypeId × Value → H} {W : World} {a : Option Addr} {len cap : Nat} {d : DataW H} {ps : List MemPlace} (h : DataW.Trod enc Yba.prog W 0 (fun _ => true) true 22 (.slice a len cap) d ps) :
    ∃ R : Lists, R.a = a ∧ R.n = len ∧ R.In W := by
  obtain ⟨fuel, hf⟩ := h
  rcases open_slice1 Yba.underlying22 cells26 hf with ⟨hcs, _⟩ | ⟨x, l, c, m, n, V, D, Pl, hcs, _, hl, hm, hmm, hx, hel⟩
  · simp [Value.cells] at hcs
    obtain ⟨rfl, rfl, rfl⟩ := hcs
    exact ⟨⟨none, 0, fun _ => none, fun _ => 0, fun _ => 0, fun _ _ => ⟨#[]⟩⟩, rfl, rfl, ⟨fun j h => absurd h (Nat.not_lt_zero _), fun j h => absurd h (Nat.not_lt_zero _), fun j h => absurd h (Nat.not_lt_zero _), fun j h => absurd h (Nat.not_lt_zero _), Nat.zero_le _, fun j h => absurd h (Nat.not_lt_zero _)⟩⟩
  · simp [Value.cells] at hcs
    obtain ⟨rfl, rfl, rfl⟩ := hcs
    simp only [if_true] at hmm
    subst hmm
    have hmax : ∀ k : Nat, k ≤ maxLen → k ≤ 9223372036854775807 := fun k hk => by unfold maxLen at hk; exact hk
    have each : ∀ j, j < len → ∃ t : One, (∃ b o, x = ⟨b, o, none⟩ ∧ b < W.heap.size ∧ W.cell? ⟨b, o + j, none⟩ = some (.slice t.a t.L t.c)) ∧ (t.a = none → t.L = 0) ∧ t.L ≤ 9223372036854775807 ∧
        ∀ i, i < t.L → (∃ b o, t.a = some ⟨b, o, none⟩ ∧ b < W.heap.size ∧ W.cell? ⟨b, o + i, none⟩ = some (.string (t.K i))) ∧ (t.K i).size ≤ maxLen := by
      intro j hj
      obtain ⟨b, o, rfl⟩ : ∃ b o, x = ⟨b, o, none⟩ := plain_zero (hel 0 (by omega)).1
      obtain ⟨hc, ht⟩ := hel j (by omega)
      rw [add_plain] at hc
      have hb : b < W.heap.size := by have := block_lt_of_cell hc; simpa using this
      rcases open_strs Yba.underlying26 Yba.underlying9 cells9 ht with ⟨hv, _⟩ | ⟨y, l', c', m', Sx, hv, _, hl', hm', hmm', _, hs⟩
      · simp only [List.cons.injEq, and_true] at hv
        rw [hv] at hc
        exact ⟨⟨none, 0, 0, fun _ => ⟨#[]⟩⟩, ⟨b, o, rfl, hb, hc⟩, fun _ => rfl, Nat.zero_le _, fun i hi => absurd hi (Nat.not_lt_zero _)⟩
      · simp only [List.cons.injEq, and_true] at hv
        simp only [if_true] at hmm'
        subst hmm'
        rw [hv] at hc
        refine ⟨⟨some y, l', m', Sx⟩, ⟨b, o, rfl, hb, hc⟩, fun h => (by simp at h), hmax l' (by omega), fun i hi => ?_⟩
        simp only at hi ⊢
        obtain ⟨b2, o2, rfl⟩ : ∃ b o, y = ⟨b, o, none⟩ := plain_zero (hs 0 (by omega)).1
        obtain ⟨h1, h2⟩ := hs i (by omega)
        rw [add_plain] at h1
        exact ⟨⟨b2, o2, rfl, by have := block_lt_of_cell h1; simpa using this, h1⟩, h2⟩
    have inst : Inhabited One := ⟨⟨none, 0, 0, fun _ => ⟨#[]⟩⟩⟩
    obtain ⟨f, hf'⟩ := choose_lt each
    refine ⟨⟨some x, len, fun j => (f j).a, fun j => (f j).L, fun j => (f j).c, fun j => (f j).K⟩, rfl, rfl, ⟨fun j hj => ?_, fun j hj i hi => ?_, fun j hj => (hf' j hj).2.1, fun j hj i hi => ((hf' j hj).2.2.2 i hi).2, hmax len (by omega), fun j hj => (hf' j hj).2.2.1⟩⟩
    · obtain ⟨⟨b, o, rfl, hb, hc⟩, _⟩ := hf' j hj
      exact ⟨b, o, rfl, hb, hc⟩
    · exact ((hf' j hj).2.2.2 i hi).1
end Go.Proofs.Ybulkbmya.laws
