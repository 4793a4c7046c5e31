/- (*rumorwire.Node).frame -/
import Derived.Test.YbulkbmxmStrD
import Derived.BigQuiet
import Derived.WalkSmall
import Derived.OneCell
import Derived.Deep.QuietTactic
namespace Go.Proofs.Ybulkbmxm.lawS3184CStranger
open Go.RowKit

/-- What the walks know of the node, the round and its frames. -/
structure Scene (w : World) (N R F n cap : Nat) (ps : List Int) (me st : Int) (base : Nat) : Prop where
  s0 : w.cell? ⟨N, 26, none⟩ = some (.int .u64 0)
  s1 : w.cell? ⟨N, 27, none⟩ = some (.int .u64 0)
  s2 : w.cell? ⟨N, 28, none⟩ = some (.pointer none)
  s3 : w.cell? ⟨N, 29, none⟩ = some (.int .u16 me)
  m : w.cell? ⟨N, 36, none⟩ = some (.map none)
  r2 : w.cell? ⟨R, 2, none⟩ = some (.slice (some ⟨F, 0, none⟩) n cap)
  f2 : w.frozen? ⟨R, 2, none⟩ = false
  r14 : w.cell? ⟨R, 14, none⟩ = some (.int .i64 st)
  f14 : w.frozen? ⟨R, 14, none⟩ = false
  own : w.ownsRow base 137 5 (.slice (some ⟨F, 0, none⟩) n cap) n (flat5 ps)
  len : ps.length = n
  small : n ≤ 1280
  hbase : base ≤ w.heap.size
  hRF : R ≠ F
  hNR : N ≠ R
  hNF : N ≠ F

theorem flat5_at : ∀ (ps : List Int) (j i : Nat), j < ps.length → i < 5 → (flat5 ps)[j * 5 + i]? = (fr5 (ps.getD j 0))[i]?
  | p :: ps, 0, i, _, hi => by
    have e : flat5 (p :: ps) = fr5 p ++ flat5 ps := by simp [flat5]
    rw [e, Nat.zero_mul, Nat.zero_add, List.getElem?_append_left (by simpa [fr5] using hi)]
    rfl
  | p :: ps, j + 1, i, hj, hi => by
    have e : flat5 (p :: ps) = fr5 p ++ flat5 ps := by simp [flat5]
    have l : (fr5 p).length = 5 := rfl
    rw [e, List.getElem?_append_right (by rw [l]; omega), l, show (j + 1) * 5 + i - 5 = j * 5 + i by omega, flat5_at ps j i (by simpa using hj) hi]
    simp

theorem frame_at {w : World} {base F n cap : Nat} {ps : List Int} (h : w.ownsRow base 137 5 (.slice (some ⟨F, 0, none⟩) n cap) n (flat5 ps)) (hl : ps.length = n) : ∀ j, j < n → FrameAt w F j (ps.getD j 0) := by
  intro j hj
  have c : ∀ i, i < 5 → w.cell? ⟨F, j * 5 + i, none⟩ = (fr5 (ps.getD j 0))[i]? := fun i hi => by
    rw [h.cellAt (j * 5 + i) (by omega), flat5_at ps j i (by omega) hi]
  exact ⟨c 0 (by omega), c 1 (by omega), c 2 (by omega), c 3 (by omega), c 4 (by omega)⟩

theorem row_lt {w : World} {base e size F n cap : Nat} {xs : List Value} (h : w.ownsRow base e size (.slice (some ⟨F, 0, none⟩) n cap) n xs) : F < w.heap.size := by
  rcases h.2 with ⟨h, _⟩ | ⟨g, c, cur, h, _, hh, _⟩
  · simp at h
  · simp at h; rw [h.1]; exact lt_of_block hh

theorem Scene.find {w : World} {N R F n cap : Nat} {ps : List Int} {me st : Int} {base : Nat} (S : Scene w N R F n cap ps me st base) (s : Int) (w' : World) (hb : Below w.heap.size w w') :
    Calls Yba.prog 23 #[.pointer (some ⟨R, 0, none⟩), .agg #[.int .u64 0, .int .u64 0, .pointer none, .int .u16 s]] w' fun e w'' =>
      ((∃ j : Nat, j < n ∧ ps.getD j 0 = s ∧ (∀ i, i < j → ps.getD i 0 ≠ s) ∧ e = .returned (.tuple #[.int .i64 j, .bool true])) ∨ ((∀ i, i < n → ps.getD i 0 ≠ s) ∧ e = .returned (.tuple #[.int .i64 0, .bool false]))) ∧ Below w'.heap.size w' w'' := by
  have hF := row_lt S.own
  have hR := block_lt_of_cell S.r2
  refine find_any R F n cap ps s w' S.small ((hb.cell (p := ⟨R, 2, none⟩) hR).trans S.r2) (by have := hb.size; omega) ?_
  intro j hj
  exact (frame_at S.own S.len j hj).below hF hb

/-- The source is there: the first place at which it lies. -/
theorem Scene.hit {w : World} {N R F n cap : Nat} {ps : List Int} {me st : Int} {base : Nat} (S : Scene w N R F n cap ps me st base) (s : Int) (w' : World) (hb : Below w.heap.size w w') (j : Nat) (hj : j < n) (hp : ps.getD j 0 = s) (hfirst : ∀ i, i < j → ps.getD i 0 ≠ s) :
    Calls Yba.prog 23 #[.pointer (some ⟨R, 0, none⟩), .agg #[.int .u64 0, .int .u64 0, .pointer none, .int .u16 s]] w' fun e w'' => e = .returned (.tuple #[.int .i64 j, .bool true]) ∧ Below w'.heap.size w' w'' := by
  refine (S.find s w' hb).mono ?_
  rintro e w'' ⟨⟨i, hi, hpi, hfi, rfl⟩ | ⟨hno, rfl⟩, hb'⟩
  · have : i = j := by
      rcases Nat.lt_trichotomy i j with h | h | h
      · exact absurd hpi (hfirst i h)
      · exact h
      · exact absurd hp (hfi j h)
    subst this
    exact ⟨rfl, hb'⟩
  · exact absurd hp (hno j hj)

theorem Scene.miss {w : World} {N R F n cap : Nat} {ps : List Int} {me st : Int} {base : Nat} (S : Scene w N R F n cap ps me st base) (s : Int) (w' : World) (hb : Below w.heap.size w w') (hno : ∀ i, i < n → ps.getD i 0 ≠ s) :
    Calls Yba.prog 23 #[.pointer (some ⟨R, 0, none⟩), .agg #[.int .u64 0, .int .u64 0, .pointer none, .int .u16 s]] w' fun e w'' => e = .returned (.tuple #[.int .i64 0, .bool false]) ∧ Below w'.heap.size w' w'' := by
  refine (S.find s w' hb).mono ?_
  rintro e w'' ⟨⟨i, hi, hpi, hfi, rfl⟩ | ⟨_, rfl⟩, hb'⟩
  · exact absurd hpi (hno i hi)
  · exact ⟨rfl, hb'⟩

set_option maxHeartbeats 1000000 in
set_option maxRecDepth 100000 in
/-- The source is there already. -/
theorem frame_found {w : World} {N R F n cap : Nat} {ps : List Int} {me st : Int} {base : Nat} (S : Scene w N R F n cap ps me st base) (s : Int) (j : Nat) (hj : j < n) (hp : Hid (ps.getD j 0 = s)) (hfirst : Hid (∀ i, i < j → ps.getD i 0 ≠ s)) :
    Calls Yba.prog 18 #[.pointer (some ⟨N, 0, none⟩), .pointer (some ⟨R, 0, none⟩), .agg #[.int .u64 0, .int .u64 0, .pointer none, .int .u16 s]] w fun e w' =>
      e = .returned (.tuple #[.int .i64 j, .bool true]) ∧ Below w.heap.size w w' := by
  go_enter Yba.func18, Yba.ntmps18
  go_wp2_with (go_at_call 23; refine (S.hit s _ ((Below.refl _ _).alloc (Nat.le_refl _) _) j hj hp.out hfirst.out).mono ?_; rintro e w1 ⟨rfl, hb⟩)
  go_ret2
  exact ⟨rfl, ((Below.refl _ _).alloc (Nat.le_refl _) _).trans (hb.mono (by simp))⟩

/-- What is known behind 'find': the node's, the round's and the boxed source's cells. -/
structure Seen (w1 : World) (N R F n cap X : Nat) (me st s : Int) : Prop where
  c0 : w1.cell? ⟨N, 26, none⟩ = some (.int .u64 0)
  c1 : w1.cell? ⟨N, 27, none⟩ = some (.int .u64 0)
  c2 : w1.cell? ⟨N, 28, none⟩ = some (.pointer none)
  c3 : w1.cell? ⟨N, 29, none⟩ = some (.int .u16 me)
  cm : w1.cell? ⟨N, 36, none⟩ = some (.map none)
  x0 : w1.cell? ⟨X, 0, none⟩ = some (.int .u64 0)
  x1 : w1.cell? ⟨X, 1, none⟩ = some (.int .u64 0)
  x2 : w1.cell? ⟨X, 2, none⟩ = some (.pointer none)
  x3 : w1.cell? ⟨X, 3, none⟩ = some (.int .u16 s)
  r2 : w1.cell? ⟨R, 2, none⟩ = some (.slice (some ⟨F, 0, none⟩) n cap)
  r14 : w1.cell? ⟨R, 14, none⟩ = some (.int .i64 st)
  f2 : w1.frozen? ⟨R, 2, none⟩ = false
  f14 : w1.frozen? ⟨R, 14, none⟩ = false

theorem Scene.seen {w : World} {N R F n cap : Nat} {ps : List Int} {me st : Int} {base : Nat} (S : Scene w N R F n cap ps me st base) {s : Int} {w1 : World}
    (hb : Below (w.alloc (.cells #[.int .u64 0, .int .u64 0, .pointer none, .int .u16 s] 50)).heap.size (w.alloc (.cells #[.int .u64 0, .int .u64 0, .pointer none, .int .u16 s] 50)) w1) :
    Below w.heap.size w w1 ∧ w.heap.size < w1.heap.size ∧ Seen w1 N R F n cap w.heap.size me st s := by
  have hbx : Below (w.heap.size + 1) (w.alloc (.cells #[.int .u64 0, .int .u64 0, .pointer none, .int .u16 s] 50)) w1 := by simpa using hb
  have hb1 : Below w.heap.size w w1 := ((Below.refl _ _).alloc (Nat.le_refl _) _).trans (hbx.mono (by simp))
  have hN := block_lt_of_cell S.s0
  have hR := block_lt_of_cell S.r2
  have bx : ∀ i, w1.cell? ⟨w.heap.size, i, none⟩ = #[.int .u64 0, .int .u64 0, .pointer none, .int .u16 s][i]? := fun i =>
    (hbx.cell (p := ⟨w.heap.size, i, none⟩) (by simp)).trans (World.cell?_alloc_at _ _ _ _ rfl)
  refine ⟨hb1, by have := hbx.size; simp at this; omega, ?_⟩
  exact ⟨(hb1.cell (p := ⟨N, 26, none⟩) hN).trans S.s0, (hb1.cell (p := ⟨N, 27, none⟩) hN).trans S.s1, (hb1.cell (p := ⟨N, 28, none⟩) hN).trans S.s2, (hb1.cell (p := ⟨N, 29, none⟩) hN).trans S.s3,
    (hb1.cell (p := ⟨N, 36, none⟩) hN).trans S.m, by rw [bx]; rfl, by rw [bx]; rfl, by rw [bx]; rfl, by rw [bx]; rfl,
    (hb1.cell (p := ⟨R, 2, none⟩) hR).trans S.r2, (hb1.cell (p := ⟨R, 14, none⟩) hR).trans S.r14, (hb1.frozen (p := ⟨R, 2, none⟩) hR).trans S.f2, (hb1.frozen (p := ⟨R, 14, none⟩) hR).trans S.f14⟩

/-- A look into a nil map. -/
theorem look_none (s : Int) (w : World) : (Instr.lookup 70 (.map none) (.agg #[.int .u64 0, .int .u64 0, .pointer none, .int .u16 s]) true).run Yba.prog w = .ok (.tuple #[.int .i64 0, .bool false]) w := by kernel_rfl

set_option maxHeartbeats 1000000 in
set_option maxRecDepth 100000 in
/-- The source is not there, and is the node's own address. -/
theorem frame_me {w : World} {N R F n cap : Nat} {ps : List Int} {me st : Int} {base : Nat} (S : Scene w N R F n cap ps me st base) (s : Int) (hno : Hid (∀ i, i < n → ps.getD i 0 ≠ s)) (hme : Hid (s = me)) :
    Calls Yba.prog 18 #[.pointer (some ⟨N, 0, none⟩), .pointer (some ⟨R, 0, none⟩), .agg #[.int .u64 0, .int .u64 0, .pointer none, .int .u16 s]] w fun e w' =>
      e = .returned (.tuple #[.int .i64 0, .bool false]) ∧ Below w.heap.size w w' := by
  have hnil := nil_eq
  have hsm : (s == me) = true := by simpa using hme.out
  go_enter Yba.func18, Yba.ntmps18
  go_wp2_with (go_at_call 23; refine (S.miss s _ ((Below.refl _ _).alloc (Nat.le_refl _) _) hno.out).mono ?_; rintro e w1 ⟨rfl, hb⟩; obtain ⟨hb1, hs1, c0, c1, c2, c3, cm, x0, x1, x2, x3, r2, r14, f2, f14⟩ := S.seen hb; clear hb)
  go_quiet (fail)
  go_wp2_with fail
  go_ret2
  exact ⟨rfl, below_drewN hb1 _⟩

set_option maxHeartbeats 1000000 in
set_option maxRecDepth 100000 in
/-- The source is not there, and the round is full. -/
theorem frame_full {w : World} {N R F n cap : Nat} {ps : List Int} {me st : Int} {base : Nat} (S : Scene w N R F n cap ps me st base) (s : Int) (hno : Hid (∀ i, i < n → ps.getD i 0 ≠ s)) (hme : Hid (s ≠ me)) (hfull : 256 ≤ n) :
    Calls Yba.prog 18 #[.pointer (some ⟨N, 0, none⟩), .pointer (some ⟨R, 0, none⟩), .agg #[.int .u64 0, .int .u64 0, .pointer none, .int .u16 s]] w fun e w' =>
      e = .returned (.tuple #[.int .i64 0, .bool false]) ∧ Below w.heap.size w w' := by
  have hnil := nil_eq
  have hsm : (s == me) = false := by simpa using hme.out
  have hsmall := S.small
  go_enter Yba.func18, Yba.ntmps18
  go_wp2_with (go_at_call 23; refine (S.miss s _ ((Below.refl _ _).alloc (Nat.le_refl _) _) hno.out).mono ?_; rintro e w1 ⟨rfl, hb⟩; obtain ⟨hb1, hs1, c0, c1, c2, c3, cm, x0, x1, x2, x3, r2, r14, f2, f14⟩ := S.seen hb; clear hb)
  go_quiet (fail)
  go_wp2_with fail
  go_ret2
  exact ⟨rfl, below_drewN hb1 _⟩

set_option maxHeartbeats 1000000 in
set_option maxRecDepth 100000 in
/-- The source is not there, and eight strangers are. -/
theorem frame_eight {w : World} {N R F n cap : Nat} {ps : List Int} {me st : Int} {base : Nat} (S : Scene w N R F n cap ps me st base) (s : Int) (hno : Hid (∀ i, i < n → ps.getD i 0 ≠ s)) (hme : Hid (s ≠ me)) (hfull : n < 256) (hst : (st == 8) = true) :
    Calls Yba.prog 18 #[.pointer (some ⟨N, 0, none⟩), .pointer (some ⟨R, 0, none⟩), .agg #[.int .u64 0, .int .u64 0, .pointer none, .int .u16 s]] w fun e w' =>
      e = .returned (.tuple #[.int .i64 0, .bool false]) ∧ Below w.heap.size w w' := by
  have hnil := nil_eq
  have hlook := look_none
  have hsm : (s == me) = false := by simpa using hme.out
  go_enter Yba.func18, Yba.ntmps18
  go_wp2_with (go_at_call 23; refine (S.miss s _ ((Below.refl _ _).alloc (Nat.le_refl _) _) hno.out).mono ?_; rintro e w1 ⟨rfl, hb⟩; obtain ⟨hb1, hs1, c0, c1, c2, c3, cm, x0, x1, x2, x3, r2, r14, f2, f14⟩ := S.seen hb; clear hb)
  go_quiet (fail)
  go_wp2_with fail
  go_quiet (fail)
  go_wp2_with fail
  go_ret2
  exact ⟨rfl, below_drewN hb1 _⟩

end Go.Proofs.Ybulkbmxm.lawS3184CStranger
