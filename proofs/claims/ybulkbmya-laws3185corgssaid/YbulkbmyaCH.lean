/- tiergate.Subject.organizations and its iterator. -/
import Derived.Test.YbulkbmyaCD
import Derived.RangeFuncNested
import Derived.RangeFuncBound
import Derived.RangeFuncCalls
import Derived.RangeFuncLeaves
import Derived.Shelf.Abstract
import Derived.WalkKit
import Derived.OwnWalkIn
import Derived.TacticsInMore
import Derived.RegionIn
import Derived.LoopNIn
import Derived.LoopIn
import Derived.Sort.MapsRangeIn
import Derived.Sort.KeysCollected
namespace Go.Proofs.Ybulkbmya.laws
open Go.RowKit Go.Maps Go.Shelf

/-- A string that a key may be. -/
abbrev Str := { s : ByteArray // s.size ≤ maxLen }

/-- What a round keeps: maps and walks; the roles' block and the captured subject's. -/
structure Keeps (va : Option Addr) (Bn : Nat) (W W' : World) : Prop where
  walks : KeepsWalks W W'
  same : ∀ k, (k = Bn ∨ va = some ⟨k, 0, none⟩) → W'.heap[k]? = W.heap[k]?

theorem Keeps.trans {va : Option Addr} {Bn : Nat} {A B C : World} (h : Keeps va Bn A B) (k : Keeps va Bn B C) : Keeps va Bn A C :=
  ⟨h.walks.trans k.walks, fun i hi => (k.same i hi).trans (h.same i hi)⟩

/-- The blocks that the iterator reads. -/
def Mine (n : Nat) (ms : List (Option Nat)) (va : Option Addr) (Bn k : Nat) : Prop := k = Bn ∨ va = some ⟨k, 0, none⟩ ∨ ∃ j, j < n ∧ ms.getD j none = some k

/-- What the iterator reads, all of it below B. -/
structure Lies (B : Nat) (W : World) (R : Lists) (ms : List (Option Nat)) (va : Option Addr) (vc Bn : Nat) : Prop where
  roles : RolesAt W R R.n ms va
  box : W.heap[Bn]? = some (.cells (subj (.slice va R.n vc)) 29 (0, 0))
  lt : ∀ k, Mine R.n ms va Bn k → k < B
  le : B ≤ W.heap.size

theorem Lies.kept {B : Nat} {W W' : World} {R : Lists} {ms : List (Option Nat)} {va : Option Addr} {vc Bn : Nat} (h : Lies B W R ms va vc Bn) (hs : W.heap.size ≤ W'.heap.size) (hk : ∀ k, Mine R.n ms va Bn k → W'.heap[k]? = W.heap[k]?) : Lies B W' R ms va vc Bn := by
  refine ⟨fun j hj => ?_, by rw [hk Bn (.inl rfl)]; exact h.box, h.lt, Nat.le_trans h.le hs⟩
  obtain ⟨⟨g, e, hg, h0, h1, h2⟩, hr⟩ := h.roles j hj
  have hb := hk g (.inr (.inl e))
  exact ⟨⟨g, e, by omega, (World.cell?_of_block (a := ⟨g, _, none⟩) hb).trans h0, (World.cell?_of_block (a := ⟨g, _, none⟩) hb).trans h1, (World.cell?_of_block (a := ⟨g, _, none⟩) hb).trans h2⟩, hr.kept fun m e => hk m (.inr (.inr ⟨j, hj, e⟩))⟩
theorem Lies.keeps {B : Nat} {W W' : World} {R : Lists} {ms : List (Option Nat)} {va : Option Addr} {vc Bn : Nat} (h : Lies B W R ms va vc Bn) (hk : Keeps va Bn W W') : Lies B W' R ms va vc Bn := by
  refine h.kept hk.walks.size fun k hm => ?_
  rcases hm with e | e | ⟨j, hj, e⟩
  · exact hk.same k (.inl e)
  · exact hk.same k (.inr e)
  · have hr := (h.roles j hj).2
    rw [e] at hr
    obtain ⟨D, ⟨es, clock, hm, r⟩, h2⟩ := hr
    rw [hm]
    exact hk.walks.same k _ hm rfl
theorem Lies.below {B : Nat} {W W' : World} {R : Lists} {ms : List (Option Nat)} {va : Option Addr} {vc Bn : Nat} (h : Lies B W R ms va vc Bn) (hb : Below W.heap.size W W') : Lies B W' R ms va vc Bn :=
  h.kept hb.size fun k hk => hb.block k (Nat.lt_of_lt_of_le (h.lt k hk) h.le)
theorem Lies.grown {B : Nat} {W W' : World} {R : Lists} {ms : List (Option Nat)} {va : Option Addr} {vc Bn : Nat} {row : Option Nat} (h : Lies B W R ms va vc Bn) (hg : W.grownBy W' row) (hr : ∀ r, row = some r → B ≤ r) : Lies B W' R ms va vc Bn :=
  h.kept hg.size fun k hk => hg.block k (Nat.lt_of_lt_of_le (h.lt k hk) h.le) fun e => by have := hr k e.symm; have := h.lt k hk; omega
theorem Lies.alloc {B : Nat} {W : World} {R : Lists} {ms : List (Option Nat)} {va : Option Addr} {vc Bn : Nat} (h : Lies B W R ms va vc Bn) (o : Obj) : Lies B (W.alloc o) R ms va vc Bn :=
  h.grown (World.grownBy_alloc W o none) (fun r e => by cases e)

/-- What has come when k roles are over. -/
structure Came (R : Lists) (k : Nat) (more : ByteArray → Prop) (pre : List Str) : Prop where
  nodup : pre.Nodup
  mem : ∀ s : Str, s ∈ pre ↔ s.1 ≠ ⟨#[]⟩ ∧ (R.Any k s.1 ∨ more s.1)

theorem any_succ (R : Lists) (k : Nat) (s : ByteArray) : R.Any (k + 1) s ↔ R.Any k s ∨ R.Has k s := by
  constructor
  · rintro ⟨j, hj, h⟩
    by_cases e : j = k
    · subst e; exact .inr h
    · exact .inl ⟨j, by omega, h⟩
  · rintro (⟨j, hj, h⟩ | h)
    · exact ⟨j, by omega, h⟩
    · exact ⟨k, by omega, h⟩
theorem Came.start (R : Lists) : Came R 0 (fun _ => False) [] := ⟨List.nodup_nil, fun s => by
  simp
  rintro _ ⟨j, hj, _⟩
  omega⟩
theorem Came.congr {R : Lists} {k k' : Nat} {P Q : ByteArray → Prop} {pre : List Str} (h : Came R k P pre) (e : ∀ s : Str, (R.Any k s.1 ∨ P s.1) ↔ (R.Any k' s.1 ∨ Q s.1)) : Came R k' Q pre := ⟨h.nodup, fun s => by rw [h.mem, e]⟩
/-- A key that has come before, or the empty one: passed over. -/
theorem Came.pass {R : Lists} {k : Nat} {P : ByteArray → Prop} {pre : List Str} (h : Came R k P pre) (x : ByteArray) (hx : x = ⟨#[]⟩ ∨ R.Any k x) : Came R k (fun s => P s ∨ s = x) pre := ⟨h.nodup, fun s => by
  rw [h.mem]
  constructor
  · rintro ⟨h1, h2 | h2⟩
    · exact ⟨h1, .inl h2⟩
    · exact ⟨h1, .inr (.inl h2)⟩
  · rintro ⟨h1, h2 | h2 | h2⟩
    · exact ⟨h1, .inl h2⟩
    · exact ⟨h1, .inr h2⟩
    · rcases hx with hx | hx
      · exact absurd (h2.trans hx) h1
      · exact ⟨h1, .inl (h2 ▸ hx)⟩⟩
/-- A new key: yielded. -/
theorem Came.more {R : Lists} {k : Nat} {P : ByteArray → Prop} {pre : List Str} (h : Came R k P pre) (x : Str) (h0 : x.1 ≠ ⟨#[]⟩) (h1 : ¬ R.Any k x.1) (h2 : ¬ P x.1) : Came R k (fun s => P s ∨ s = x.1) (pre ++ [x]) := by
  refine ⟨List.nodup_append.2 ⟨h.nodup, by simp, fun a ha b hb => ?_⟩, fun s => ?_⟩
  · simp at hb
    subst hb
    rintro rfl
    rcases ((h.mem a).1 ha).2 with h | h
    · exact h1 h
    · exact h2 h
  · rw [List.mem_append, h.mem]
    constructor
    · rintro (⟨a, b | b⟩ | b)
      · exact ⟨a, .inl b⟩
      · exact ⟨a, .inr (.inl b)⟩
      · simp at b
        subst b
        exact ⟨h0, .inr (.inr rfl)⟩
    · rintro ⟨a, b | b | b⟩
      · exact .inl ⟨a, .inl b⟩
      · exact .inl ⟨a, .inr b⟩
      · exact .inr (by simp; exact Subtype.ext b)

/-- organizations boxes the subject; the function value captures the box. -/
theorem orgs_any (v : Value) (w : World) (va : Option Addr) (n vc : Nat) (hv : v = .slice va n vc) :
    Calls Yba.prog 10 #[.agg (subj v)] w fun e w' => e = .returned (.func (.func 13) #[] #[.pointer (some ⟨w.heap.size, 0, none⟩)]) ∧ w' = w.alloc (.cells (subj v) 29) := by
  subst hv
  go_enter Yba.func10, Yba.ntmps10
  go_wp2
  go_ret
  exact ⟨rfl, rfl⟩

end Go.Proofs.Ybulkbmya.laws
