/- (*rumorwire.Node).frame: the way on which a frame is taken in. -/
import Derived.Test.YbulkbmxmStrE
namespace Go.Proofs.Ybulkbmxm.lawS3184CStranger
open Go.RowKit

/-- Of what was there all but two blocks is as it was. -/
structure Away (R F : Nat) (w w' : World) : Prop where
  os : w'.os = w.os
  tape : w'.tape = w.tape
  output : w'.output = w.output
  size : w.heap.size ≤ w'.heap.size
  block : ∀ k, k < w.heap.size → k ≠ R → k ≠ F → w'.heap[k]? = w.heap[k]?

theorem Away.below {R F B : Nat} {w w' : World} (h : Away R F w w') (hB : B ≤ w.heap.size) (hR : B ≤ R) (hF : B ≤ F) : Below B w w' :=
  ⟨h.os, h.tape, h.output, h.size, fun k hk => h.block k (by omega) (by omega) (by omega)⟩
theorem Away.of_below {R F : Nat} {w w' : World} (h : Below w.heap.size w w') : Away R F w w' := ⟨h.os, h.tape, h.output, h.size, fun k hk _ _ => h.block k hk⟩
theorem Away.cell {R F : Nat} {w w' : World} (h : Away R F w w') {p : Addr} (hp : p.block < w.heap.size) (hR : p.block ≠ R) (hF : p.block ≠ F) : w'.cell? p = w.cell? p := World.cell?_of_block (w := w) (h.block p.block hp hR hF)

/-- The round behind a frame that was taken in. -/
structure Added (w w' : World) (R F n : Nat) (ps : List Int) (s st : Int) (g cap' : Nat) : Prop where
  r2 : w'.cell? ⟨R, 2, none⟩ = some (.slice (some ⟨g, 0, none⟩) (n + 1) cap')
  r14 : w'.cell? ⟨R, 14, none⟩ = some (.int .i64 (wrap64 (st + 1)))
  frames : ∀ j, j < n + 1 → FrameAt w' g j ((ps ++ [s]).getD j 0)
  away : Away R F w w'
  gR : g ≠ R
  gw : g < w'.heap.size

theorem owns_heap {w w' : World} {base e size n : Nat} {v : Value} {xs : List Value} (h : w.ownsRow base e size v n xs) (hh : w'.heap = w.heap) : w'.ownsRow base e size v n xs := by
  obtain ⟨h1, h2⟩ := h
  refine ⟨h1, ?_⟩
  rw [hh]
  exact h2

theorem set_facts {w w1 : World} {N R F n cap : Nat} {ps : List Int} {me st : Int} {base : Nat} (S : Scene w N R F n cap ps me st base) (hb1 : Below w.heap.size w w1) (q : Nat) (u : Value) :
    ((w1.drewN q).setCell ⟨R, 14, none⟩ u).ownsRow base 137 5 (.slice (some ⟨F, 0, none⟩) n cap) n (flat5 ps) ∧ base ≤ ((w1.drewN q).setCell ⟨R, 14, none⟩ u).heap.size ∧
    ((w1.drewN q).setCell ⟨R, 14, none⟩ u).cell? ⟨R, 2, none⟩ = some (.slice (some ⟨F, 0, none⟩) n cap) ∧ ((w1.drewN q).setCell ⟨R, 14, none⟩ u).frozen? ⟨R, 2, none⟩ = false ∧
    ((w1.drewN q).setCell ⟨R, 14, none⟩ u).cell? ⟨R, 14, none⟩ = some u := by
  have hRb := block_lt_of_cell S.r2
  have o1 : (w1.drewN q).ownsRow base 137 5 (.slice (some ⟨F, 0, none⟩) n cap) n (flat5 ps) := owns_heap (owns_below S.own hb1) rfl
  have c2 : (w1.drewN q).cell? ⟨R, 2, none⟩ = some (.slice (some ⟨F, 0, none⟩) n cap) := (hb1.cell (p := ⟨R, 2, none⟩) hRb).trans S.r2
  have c14 : (w1.drewN q).cell? ⟨R, 14, none⟩ = some (.int .i64 st) := (hb1.cell (p := ⟨R, 14, none⟩) hRb).trans S.r14
  have f2 : (w1.drewN q).frozen? ⟨R, 2, none⟩ = false := (hb1.frozen (p := ⟨R, 2, none⟩) hRb).trans S.f2
  refine ⟨ownsRow_setCell_other o1 (by simp [Value.ownBlock]; exact fun h => S.hRF h.symm) u, ?_, ?_, ?_, ?_⟩
  · have := S.hbase
    have := hb1.size
    simp [World.setCell]
    omega
  · rw [World.cell?_setCell_other _ _ _ _ (by simp)]; exact c2
  · rw [World.frozen?_setCell]; exact f2
  · exact World.cell?_setCell_same _ _ _ c14

theorem added_of {w w1 w2 : World} {N R F n cap g cap' q : Nat} {ps : List Int} {me st s : Int} {base : Nat} (S : Scene w N R F n cap ps me st base) (hb1 : Below w.heap.size w w1)
    (hown : w2.ownsRow base 137 5 (.slice (some ⟨g, 0, none⟩) (n + 1) cap') (n + 1) (flat5 (ps ++ [s])))
    (hgrow : ((w1.drewN q).setCell ⟨R, 14, none⟩ (.int .i64 (wrap64 (st + 1)))).grownBy w2 (some F)) (hg : g = F ∨ ((w1.drewN q).setCell ⟨R, 14, none⟩ (.int .i64 (wrap64 (st + 1)))).heap.size ≤ g) :
    Added w (w2.setCell ⟨R, 2, none⟩ (.slice (some ⟨g, 0, none⟩) (n + 1) cap')) R F n ps s st g cap' := by
  obtain ⟨_, _, s2, _, s14⟩ := set_facts S hb1 q (.int .i64 (wrap64 (st + 1)))
  have hRb := block_lt_of_cell S.r2
  simp only at hRb
  have sz1 := hb1.size
  have szW : ((w1.drewN q).setCell ⟨R, 14, none⟩ (.int .i64 (wrap64 (st + 1)))).heap.size = w1.heap.size := by simp [World.setCell]
  have sz2 := hgrow.size
  rw [szW] at sz2 hg
  have hgR : g ≠ R := by
    rcases hg with rfl | h
    · exact fun h => S.hRF h.symm
    · omega
  have nRF : some R ≠ some F := fun h => S.hRF (by simpa using h)
  have k2 : w2.cell? ⟨R, 2, none⟩ = some (.slice (some ⟨F, 0, none⟩) n cap) := by
    rw [hgrow.cell_far ⟨R, 2, none⟩ (by rw [szW]; show R < _; omega) nRF]; exact s2
  have k14 : w2.cell? ⟨R, 14, none⟩ = some (.int .i64 (wrap64 (st + 1))) := by
    rw [hgrow.cell_far ⟨R, 14, none⟩ (by rw [szW]; show R < _; omega) nRF]; exact s14
  have own3 := ownsRow_setCell_other hown (a := ⟨R, 2, none⟩) (by simp [Value.ownBlock]; exact hgR) (.slice (some ⟨g, 0, none⟩) (n + 1) cap')
  refine ⟨World.cell?_setCell_same _ _ _ k2, ?_, ?_, ?_, hgR, row_lt own3⟩
  · rw [World.cell?_setCell_other _ _ _ _ (by simp)]; exact k14
  · exact frame_at own3 (by simp [S.len])
  · refine ⟨hgrow.os.trans hb1.os, hgrow.tape.trans hb1.tape, hgrow.output.trans hb1.output, ?_, ?_⟩
    · simp [World.setCell]; omega
    · intro k hk kR kF
      rw [Below.heap_setCell _ _ _ _ (by simpa using kR), hgrow.block k (by rw [szW]; omega) (by simpa using kF), Below.heap_setCell _ _ _ _ (by simpa using kR)]
      exact hb1.block k hk

set_option maxHeartbeats 1000000 in
set_option maxRecDepth 100000 in
/-- The source is not there, there is room, and fewer or more than eight strangers are: it is taken in. -/
theorem frame_added {w : World} {N R F n cap : Nat} {ps : List Int} {me st : Int} {base : Nat} (S : Scene w N R F n cap ps me st base) (s : Int) (hno : Hid (∀ i, i < n → ps.getD i 0 ≠ s)) (hme : Hid (s ≠ me)) (hfull : n < 256) (hst : (st == 8) = false) :
    Calls Yba.prog 18 #[.pointer (some ⟨N, 0, none⟩), .pointer (some ⟨R, 0, none⟩), .agg #[.int .u64 0, .int .u64 0, .pointer none, .int .u16 s]] w fun e w' =>
      ∃ g cap', e = .returned (.tuple #[.int .i64 n, .bool true]) ∧ Added w w' R F n ps s st g cap' := by
  have hnil := nil_eq
  have hlook := look_none
  have hsm : (s == me) = false := by simpa using hme.out
  have hRb : R < w.heap.size := block_lt_of_cell S.r2
  go_enter Yba.func18, Yba.ntmps18
  go_wp2_with (go_at_call 23; refine (S.miss s _ ((Below.refl _ _).alloc (Nat.le_refl _) _) hno.out).mono ?_; rintro e w1 ⟨rfl, hb⟩; obtain ⟨hb1, hs1, c0, c1, c2, c3, cm, x0, x1, x2, x3, r2, r14, f2, f14⟩ := S.seen hb; clear hb)
  go_quiet (fail)
  go_wp2_with fail
  go_quiet (fail)
  go_wp2_with fail
  have hS := fun q => set_facts S hb1 q (.int .i64 (wrap64 (st + 1)))
  refine (add_any base R F n cap ps s _ S.small (hS _).2.1 S.hRF (hS _).2.2.1 (hS _).2.2.2.1 (hS _).1).mono ?_
  rintro e w2 ⟨g, cap', w3, rfl, ho, hg, hl, rfl⟩
  have A := added_of S hb1 ho hg hl
  clear hS ho hg hl c0 c1 c2 c3 cm x0 x1 x2 x3 r2 r14 f2 f14
  go_wp2_with fail
  go_ret2
  exact ⟨g, cap', rfl, A⟩
end Go.Proofs.Ybulkbmxm.lawS3184CStranger
