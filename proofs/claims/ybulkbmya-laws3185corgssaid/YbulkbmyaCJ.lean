/- tiergate.LawS3185COrgs: what lies in memory while the law ranges over the organizations. -/
import Derived.Test.YbulkbmyaCE
import Derived.Test.YbulkbmyaCG
import Derived.Test.YbulkbmyaCI
import Derived.RangeFuncBox
import Derived.Maps.AppendAt
namespace Go.Proofs.Ybulkbmya.laws
open Go.RowKit Go.Maps Go.Shelf

theorem Built.cap {w w' : World} {R : Lists} {n : Nat} {ms : List (Option Nat)} {va : Option Addr} {vc : Nat} (h : Built w w' R n ms va vc) : n ≤ vc := by
  rcases h.own.2 with ⟨h0, h1⟩ | ⟨g, cap, cur, h0, _, hh, hc, _⟩
  · omega
  · simp at h0
    omega

/-- Where the loop begins: the boxes of roles (w's size), of the result, of s (at b), of seen (b + 1), of the captured subject (b + 2). -/
structure Start (w : World) (R : Lists) (cap b : Nat) (ms : List (Option Nat)) (va : Option Addr) (vc : Nat) (W0 : World) : Prop where
  size : W0.heap.size = b + 3
  lt : w.heap.size + 1 < b
  below : Below w.heap.size w W0
  box3 : Boxed W0 w.heap.size 22 (.slice R.a R.n cap)
  box6 : Boxed W0 (w.heap.size + 1) 4 (.bool false)
  box7 : W0.heap[b]? = some (.cells (subj (.slice va R.n vc)) 29 (0, 0))
  box8 : Boxed W0 (b + 1) 26 (.slice none 0 0)
  boxN : W0.heap[b + 2]? = some (.cells (subj (.slice va R.n vc)) 29 (0, 0))
  roles : RolesAt W0 R R.n ms va
  mine : ∀ k, Mine R.n ms va (b + 2) k → k = b + 2 ∨ k < b
  cap : R.n ≤ vc

theorem start_of {w w1 : World} {R : Lists} {cap : Nat} {ms : List (Option Nat)} {va : Option Addr} {vc : Nat}
    (hB : Built ((w.alloc (.cells #[.slice R.a R.n cap] 22)).alloc (.cells #[.bool false] 4)) w1 R R.n ms va vc) :
    Start w R cap w1.heap.size ms va vc (((w1.alloc (.cells (subj (.slice va R.n vc)) 29)).alloc (.cells #[.slice none 0 0] 26)).alloc (.cells (subj (.slice va R.n vc)) 29)) := by
  have hbA : Below w.heap.size w ((w.alloc (.cells #[.slice R.a R.n cap] 22)).alloc (.cells #[.bool false] 4)) := ((Below.refl _ _).alloc (Nat.le_refl _) _).alloc (by simp) _
  have b3 : Boxed ((w.alloc (.cells #[.slice R.a R.n cap] 22)).alloc (.cells #[.bool false] 4)) w.heap.size 22 (.slice R.a R.n cap) := (Boxed.new w 22 _).alloc _
  have b6 : Boxed ((w.alloc (.cells #[.slice R.a R.n cap] 22)).alloc (.cells #[.bool false] 4)) (w.heap.size + 1) 4 (.bool false) := by
    have := Boxed.new (w.alloc (.cells #[.slice R.a R.n cap] 22)) 4 (.bool false)
    rwa [World.size_alloc] at this
  have hs := hB.below.size
  have hs' : w.heap.size + 2 ≤ w1.heap.size := by simpa using hs
  have b31 : Boxed w1 w.heap.size 22 (.slice R.a R.n cap) := (hB.below.block _ b3.lt).trans b3
  have b61 : Boxed w1 (w.heap.size + 1) 4 (.bool false) := (hB.below.block _ b6.lt).trans b6
  have e1 := World.alloc_heap_new w1 (.cells (subj (.slice va R.n vc)) 29)
  have e2 : Boxed ((w1.alloc (.cells (subj (.slice va R.n vc)) 29)).alloc (.cells #[.slice none 0 0] 26)) (w1.heap.size + 1) 26 (.slice none 0 0) := by
    have := Boxed.new (w1.alloc (.cells (subj (.slice va R.n vc)) 29)) 26 (.slice none 0 0)
    rwa [World.size_alloc] at this
  have e3 := World.alloc_heap_new ((w1.alloc (.cells (subj (.slice va R.n vc)) 29)).alloc (.cells #[.slice none 0 0] 26)) (.cells (subj (.slice va R.n vc)) 29)
  simp only [World.size_alloc] at e3
  have hb1 : Below w1.heap.size w1 (((w1.alloc (.cells (subj (.slice va R.n vc)) 29)).alloc (.cells #[.slice none 0 0] 26)).alloc (.cells (subj (.slice va R.n vc)) 29)) := (((Below.refl _ _).alloc (Nat.le_refl _) _).alloc (by simp) _).alloc (by simp; omega) _
  refine ⟨by simp, by omega, ((hbA.trans (hB.below.mono (by simp; omega))).trans (hb1.mono (by omega))), ((b31.alloc _).alloc _).alloc _, ((b61.alloc _).alloc _).alloc _, ?_, e2.alloc _, e3, hB.roles.below hb1, ?_, hB.cap⟩
  · rw [Below.heap_alloc _ _ _ (by simp; omega), Below.heap_alloc _ _ _ (by simp)]
    exact e1
  · rintro k (e | e | ⟨j, hj, e⟩)
    · exact .inl e
    · right
      rcases hB.own.2 with ⟨h0, h1⟩ | ⟨g, cap, cur, h0, _, hh, _⟩
      · simp at h0
        rw [h0.1] at e
        cases e
      · simp at h0
        rw [h0.1] at e
        simp at e
        subst e
        exact lt_of_block hh
    · right
      have hr := hB.maps j hj
      rw [e] at hr
      exact hr.lt

/-- Between two rounds, pre having come. -/
structure Seen (b : Nat) (W0 : World) (pre : List Str) (W : World) : Prop where
  below : Below (b + 1) W0 W
  boxN : W.heap[b + 2]? = W0.heap[b + 2]?
  len : pre.length ≤ 65536
  row : ∃ v, Boxed W (b + 1) 26 v ∧ W.ownsRow (b + 1) 9 1 v pre.length (pre.map fun x => Value.string x.1) ∧ True

section
variable {w W0 W : World} {R : Lists} {cap b vc : Nat} {ms : List (Option Nat)} {va : Option Addr} {pre : List Str}

theorem Start.lies (h : Start w R cap b ms va vc W0) : Lies W0.heap.size W0 R ms va vc (b + 2) :=
  ⟨h.roles, h.boxN, fun k hk => by have := h.size; rcases h.mine k hk with e | e <;> omega, Nat.le_refl _⟩

theorem seen_own (h : Start w R cap b ms va vc W0) : OwnFrom W0.heap.size (Seen b W0) := by
  rintro pre A B row ⟨h1, h2, h4, h3⟩ hg hr
  have hs := h.size
  have h1s := h1.size
  refine ⟨h1.grown hg (by omega) (fun k e => by have := (hr k e).1; omega), ?_, h4, holdsRow_own (b + 1) (b + 1) 26 9 1 (fun p : List Str => p.length) (fun p => p.map fun x => Value.string x.1) (fun _ _ => True) pre A B row h3 hg (fun r e => (hr r e).2)⟩
  rw [← h2]
  exact hg.block _ (by omega) (fun e => by have := (hr _ e.symm).1; omega)

theorem Start.seen (h : Start w R cap b ms va vc W0) : Seen b W0 [] W0 :=
  ⟨Below.refl _ _, rfl, Nat.zero_le _, ⟨_, h.box8, World.ownsRow_nil _ _ _ _, trivial⟩⟩

theorem Seen.whole (i : Seen b W0 pre W) (h : Start w R cap b ms va vc W0) : Below w.heap.size w W := h.below.trans (i.below.mono (by have := h.lt; omega))
theorem Seen.lies (i : Seen b W0 pre W) (h : Start w R cap b ms va vc W0) : Lies W0.heap.size W R ms va vc (b + 2) := by
  refine h.lies.kept i.below.size fun k hk => ?_
  rcases h.mine k hk with e | e
  · subst e; exact i.boxN
  · exact i.below.block k (by omega)
theorem Seen.cells (i : Seen b W0 pre W) (h : Start w R cap b ms va vc W0) :
    W.cell? ⟨w.heap.size, 0, none⟩ = some (.slice R.a R.n cap) ∧ W.cell? ⟨w.heap.size + 1, 0, none⟩ = some (.bool false) ∧ W.frozen? ⟨w.heap.size + 1, 0, none⟩ = false ∧
    W.cell? ⟨b, 0, none⟩ = some (.string ⟨#[]⟩) ∧ W.cell? ⟨b, 1, none⟩ = some (.slice va R.n vc) ∧ W.cell? ⟨b, 2, none⟩ = some (.slice none 0 0) ∧ W.cell? ⟨b, 3, none⟩ = some (.pointer none) := by
  have hl := h.lt
  have c3 : Boxed W w.heap.size 22 (.slice R.a R.n cap) := (i.below.block _ (by omega)).trans h.box3
  have c6 : Boxed W (w.heap.size + 1) 4 (.bool false) := (i.below.block _ (by omega)).trans h.box6
  have c7 : W.heap[b]? = some (.cells (subj (.slice va R.n vc)) 29 (0, 0)) := (i.below.block _ (by omega)).trans h.box7
  obtain ⟨a0, a1, a2, a3, _⟩ := four c7
  exact ⟨c3.cell, c6.cell, c6.frozen, a0, a1, a2, a3⟩
theorem Seen.size (i : Seen b W0 pre W) (h : Start w R cap b ms va vc W0) : b + 3 ≤ W.heap.size := by have := i.below.size; have := h.size; omega

/-- The slice that seen holds. -/
theorem row_slice {v : Value} (h : W.ownsRow (b + 1) 9 1 v pre.length (pre.map fun x => Value.string x.1)) : ∃ a cp, v = .slice a pre.length cp ∧ Strs W a (pre.map fun x => x.1) := by
  rcases h.2 with ⟨rfl, h0⟩ | ⟨g, cp, cur, rfl, hg, hh, hn, _⟩
  · exact ⟨none, 0, by rw [h0], fun hl => by simp at hl; omega⟩
  · refine ⟨some ⟨g, 0, none⟩, cp, rfl, fun _ => ⟨g, rfl, lt_of_block hh, fun i hi => ?_⟩⟩
    simp at hi
    rw [h.cellAt i (by omega)]
    simp [List.getD_eq_getElem?_getD, List.getElem?_eq_getElem hi]

theorem keepsOthers_of_below {A B : World} (h : Below A.heap.size A B) : KeepsOthers A B := ⟨h.size, fun k o hk _ => by rw [h.block k (Array.getElem?_eq_some_iff.1 hk).1]; exact hk⟩

/-- The round that goes on. -/
theorem Seen.next {W3 w4 : World} {x : Str} {v v' : Value} {tmp : Obj} (i : Seen b W0 pre W) (h : Start w R cap b ms va vc W0) (hlen : pre.length < 65536) (hb : Below W.heap.size W W3) (hv : Boxed W3 (b + 1) 26 v)
    (hrow : W3.ownsRow (b + 1) 9 1 v pre.length (pre.map fun x => Value.string x.1)) (hown : w4.ownsRow (b + 1) 9 1 v' (pre.length + 1) ((pre.map fun x => Value.string x.1) ++ [.string x.1])) (hgrow : (W3.alloc tmp).grownBy w4 v.ownBlock) :
    KeepsFrom W0.heap.size W (w4.setCell ⟨b + 1, 0, none⟩ v') ∧ Keeps va (b + 2) W (w4.setCell ⟨b + 1, 0, none⟩ v') ∧ Seen b W0 (pre ++ [x]) (w4.setCell ⟨b + 1, 0, none⟩ v') := by
  have hsz := i.size h
  have hs3 := hb.size
  obtain ⟨_, q2, q3, q4, q5⟩ := hv.appended (by decide) hrow (by omega) (Nat.le_refl _) hown hgrow
  have hN : (w4.setCell ⟨b + 1, 0, none⟩ v').heap[b + 2]? = W.heap[b + 2]? := by
    rw [Below.heap_setCell _ _ _ _ (by simp), hgrow.block _ (by simp; omega) ?_, Below.heap_alloc _ _ _ (by omega), hb.block _ (by omega)]
    intro e
    rcases hrow.2 with ⟨rfl, _⟩ | ⟨g, cp, cur, rfl, _, hh, _⟩
    · simp [Value.ownBlock] at e
    · simp [Value.ownBlock] at e
      subst e
      rw [hb.block _ (by omega), i.boxN, h.boxN] at hh
      simp at hh
  have hk : KeepsOthers W (w4.setCell ⟨b + 1, 0, none⟩ v') := (keepsOthers_of_below hb).trans q4
  have hbl : Below (b + 1) W (w4.setCell ⟨b + 1, 0, none⟩ v') := (hb.mono (by omega)).trans q5
  refine ⟨hk.from _, ⟨hk.walks, fun k hk => ?_⟩, ⟨i.below.trans hbl, hN.trans i.boxN, by simp; omega, ⟨_, q2, by simpa using q3, trivial⟩⟩⟩
  rcases hk with e | e
  · subst e; exact hN
  · rcases h.mine k (.inr (.inl e)) with e' | e'
    · subst e'; exact hN
    · exact hbl.block k (by omega)

theorem keeps_put (h : Start w R cap b ms va vc W0) (A : World) (l : Nat) (o o' : Obj) (hl : W0.heap.size ≤ l) (ho : A.heap[l]? = some o) (_ : o.isCells = false) (hw : o.isWalk = false) : Keeps va (b + 2) A (A.putObj l o') := by
  refine ⟨KeepsWalks.putObj _ ho hw, fun k hk => World.putObj_heap_other fun e => ?_⟩
  have hs := h.size
  rcases hk with e' | e'
  · omega
  · rcases h.mine k (.inr (.inl e')) with e'' | e'' <;> omega
end

theorem not_good_empty (R : Lists) (pre : List Str) (x : Str) (h : x.1 = ⟨#[]⟩) : ¬ GoodPart R (pre ++ [x]) := fun g => (g.2 x (by simp)).1 h
theorem not_good_any (R : Lists) (pre : List Str) (x : Str) (h : ¬ R.Any R.n x.1) : ¬ GoodPart R (pre ++ [x]) := fun g => h (g.2 x (by simp)).2
theorem not_good_mem (R : Lists) (pre : List Str) (x : Str) (h : x.1 ∈ pre.map (fun x => x.1)) : ¬ GoodPart R (pre ++ [x]) := fun g => by
  obtain ⟨y, hy, e⟩ := List.mem_map.1 h
  obtain rfl : y = x := Subtype.ext e
  have := (List.nodup_append.1 g.1).2.2 y hy y (by simp)
  exact this rfl
end Go.Proofs.Ybulkbmya.laws
