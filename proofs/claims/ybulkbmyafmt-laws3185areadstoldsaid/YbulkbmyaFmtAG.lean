/- tiergate.LawS3185AReads: what is known at the call of requiredStr, and behind it. -/
import Derived.Test.YbulkbmyaFmtAF
namespace Go.Proofs.YbulkbmyaFmt.lawS3185AReads
open Go.RowKit Go.Maps Go.Extern.Stop Go.Stop Go.Extern

/-- Of the world ahead of the box: the map, the faults' row, what was there. -/
structure Pre (w w1 : World) (m : Nat) (es : Array MapEntry) (clock : Nat) (va : Option Addr) (n vc : Nat) (P Q : Nat → ByteArray) : Prop where
  own : w1.ownsRow w.heap.size 33 2 (.slice va n vc) n (flt P Q n)
  map : w1.heap[m]? = some (.map es clock)
  below : Below w.heap.size w w1

theorem pre_of {w wr w1 : World} {m : Nat} {es : Array MapEntry} {clock : Nat} {va : Option Addr} {n vc : Nat} {P Q : Nat → ByteArray} (hm : wr.heap[m]? = some (.map es clock)) (hb : Below w.heap.size w wr) (ho : w1.ownsRow w.heap.size 33 2 (.slice va n vc) n (flt P Q n)) (hg : wr.grownBy w1 none) : Pre w w1 m es clock va n vc P Q :=
  ⟨ho, by rw [hg.block m (lt_of_block hm) (by simp)]; exact hm, hb.grown hg hb.size (fun _ h => by cases h)⟩

/-- The walker's block laid behind it. -/
structure Box (w w1 : World) (m : Nat) (es : Array MapEntry) (clock : Nat) (va : Option Addr) (n vc : Nat) (P Q : Nat → ByteArray) (W : World) : Prop where
  own : W.ownsRow w.heap.size 33 2 (.slice va n vc) n (flt P Q n)
  map : W.heap[m]? = some (.map es clock)
  below : Below w.heap.size w W
  base : w.heap.size ≤ W.heap.size
  r : W.cell? ⟨w1.heap.size, 0, none⟩ = some (.slice va n vc)
  fz : W.frozen? ⟨w1.heap.size, 0, none⟩ = false
  ne : some w1.heap.size ≠ (Value.slice va n vc).ownBlock
  sz : w.heap.size ≤ w1.heap.size

theorem Pre.box {w w1 : World} {m : Nat} {es : Array MapEntry} {clock : Nat} {va : Option Addr} {n vc : Nat} {P Q : Nat → ByteArray} (h : Pre w w1 m es clock va n vc P Q) : Box w w1 m es clock va n vc P Q (w1.alloc (.cells #[.slice va n vc] 30)) := by
  have s1 := h.below.size
  refine ⟨h.own.alloc _, by rw [Below.heap_alloc _ _ _ (lt_of_block h.map)]; exact h.map, h.below.alloc s1 _, by simp; omega, (World.cell?_alloc_at _ _ _ _ rfl).trans rfl, World.frozen?_alloc_at _ _ _ _ rfl, ?_, s1⟩
  intro e
  rcases h.own.2 with ⟨h0, _⟩ | ⟨g, cap, cur, h0, _, hh, _⟩
  · simp at h0
    obtain ⟨rfl, _⟩ := h0
    simp [Value.ownBlock] at e
  · simp at h0
    obtain ⟨rfl, _⟩ := h0
    simp [Value.ownBlock] at e
    have := lt_of_block hh
    omega

/-- Behind the call. -/
structure Aft (w w3 : World) (R : Nat) (fa : Option Addr) (n fn fc : Nat) (P Q : Nat → ByteArray) : Prop where
  r : w3.cell? ⟨R, 0, none⟩ = some (.slice fa fn fc)
  cells : ∀ j, j < n → ∃ g, fa = some ⟨g, 0, none⟩ ∧ w3.cell? ⟨g, j * 2, none⟩ = some (.string (P j)) ∧ w3.cell? ⟨g, j * 2 + 1, none⟩ = some (.string (Q j))
  below : Below w.heap.size w w3
  le : n ≤ fn

theorem Box.same {w w1 : World} {m : Nat} {es : Array MapEntry} {clock : Nat} {va : Option Addr} {n vc : Nat} {P Q : Nat → ByteArray} {W : World} (h : Box w w1 m es clock va n vc P Q W) : Aft w W w1.heap.size va n n vc P Q ∧ ((va = none ∧ n = 0 ∧ vc = 0) ∨ ∃ g, va = some ⟨g, 0, none⟩ ∧ n ≤ vc) := by
  have hform : (va = none ∧ n = 0 ∧ vc = 0) ∨ ∃ g, va = some ⟨g, 0, none⟩ ∧ n ≤ vc := by
    rcases h.own.2 with ⟨h0, _⟩ | ⟨g, cap, cur, h0, _, _, hc, _⟩
    · simp at h0; exact .inl h0
    · simp at h0; exact .inr ⟨g, h0.1, by rw [h0.2]; exact hc⟩
  refine ⟨⟨h.r, ?_, h.below, Nat.le_refl _⟩, hform⟩
  intro j hj
  rcases hform with ⟨_, h0, _⟩ | ⟨g, rfl, _⟩
  · omega
  · obtain ⟨c0, c1⟩ := flt_at P Q n j hj
    exact ⟨g, rfl, by rw [h.own.cellAt _ (by omega)]; exact c0, by rw [h.own.cellAt _ (by omega)]; exact c1⟩

theorem Box.added {w w1 : World} {m : Nat} {es : Array MapEntry} {clock : Nat} {va : Option Addr} {n vc : Nat} {P Q : Nat → ByteArray} {W : World} (h : Box w w1 m es clock va n vc P Q W) {w2 : World} {g cap : Nat} {p q : ByteArray}
    (ho : w2.ownsRow w.heap.size 33 2 (.slice (some ⟨g, 0, none⟩) (n + 1) cap) (n + 1) (flt P Q n ++ [.string p, .string q])) (hg : W.grownBy w2 (Value.slice va n vc).ownBlock) (hl : (Value.slice va n vc).ownBlock = some g ∨ W.heap.size ≤ g) :
    Aft w (w2.setCell ⟨w1.heap.size, 0, none⟩ (.slice (some ⟨g, 0, none⟩) (n + 1) cap)) w1.heap.size (some ⟨g, 0, none⟩) n (n + 1) cap P Q ∧
      (w2.setCell ⟨w1.heap.size, 0, none⟩ (.slice (some ⟨g, 0, none⟩) (n + 1) cap)).cell? ⟨g, n * 2, none⟩ = some (.string p) ∧
      (w2.setCell ⟨w1.heap.size, 0, none⟩ (.slice (some ⟨g, 0, none⟩) (n + 1) cap)).cell? ⟨g, n * 2 + 1, none⟩ = some (.string q) ∧ n + 1 ≤ cap := by
  have hRW : w1.heap.size < W.heap.size := by have := block_lt_of_cell h.r; simpa using this
  have hgR : g ≠ w1.heap.size := by
    rcases hl with e | e
    · intro e'; rw [e'] at e; exact h.ne e.symm
    · omega
  have own3 := ownsRow_setCell_other ho (a := ⟨w1.heap.size, 0, none⟩) (by simp [Value.ownBlock]; exact hgR) (.slice (some ⟨g, 0, none⟩) (n + 1) cap)
  have hcap : n + 1 ≤ cap := by
    rcases ho.2 with ⟨h0, _⟩ | ⟨g', cap', cur, h0, _, _, hc, _⟩
    · simp at h0
    · simp at h0; rw [h0.2]; exact hc
  have hr2 : w2.cell? ⟨w1.heap.size, 0, none⟩ = some (.slice va n vc) := (hg.cell_far _ (by simpa using hRW) h.ne).trans h.r
  have hrow : ∀ k, (Value.slice va n vc).ownBlock = some k → w.heap.size ≤ k := by
    intro k hk
    rcases h.own.2 with ⟨h0, _⟩ | ⟨g', cap', cur, h0, hb, _⟩
    · simp at h0
      obtain ⟨rfl, _⟩ := h0
      simp [Value.ownBlock] at hk
    · simp at h0
      obtain ⟨rfl, _⟩ := h0
      simp [Value.ownBlock] at hk
      omega
  have fl : (flt P Q n).length = n * 2 := flt_length _ _ _
  refine ⟨⟨World.cell?_setCell_same _ _ _ hr2, ?_, (h.below.grown hg h.base hrow).setCell (p := ⟨w1.heap.size, 0, none⟩) h.sz _, by omega⟩, ?_, ?_, hcap⟩
  · intro j hj
    obtain ⟨c0, c1⟩ := flt_at P Q n j hj
    refine ⟨g, rfl, ?_, ?_⟩
    · rw [own3.cellAt _ (by omega), List.getElem?_append_left (by omega)]; exact c0
    · rw [own3.cellAt _ (by omega), List.getElem?_append_left (by omega)]; exact c1
  · rw [own3.cellAt _ (by omega), List.getElem?_append_right (by omega), fl, Nat.sub_self]; rfl
  · rw [own3.cellAt _ (by omega), List.getElem?_append_right (by omega), fl, show n * 2 + 1 - n * 2 = 1 by omega]; rfl
end Go.Proofs.YbulkbmyaFmt.lawS3185AReads
