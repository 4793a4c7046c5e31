/- tiergate.LawS3185BReads: the walker's faults; what a step that records a fault keeps. -/
import Derived.Test.YbulkbmyaFmtAB
import Derived.Test.YbulkbmyaFmtAD
import Derived.RangeFuncBox
namespace Go.Proofs.YbulkbmyaFmt.lawS3185BReads
open Go.RowKit Go.Maps Go.Extern.Stop Go.Stop Go.Extern
open Go.Proofs.YbulkbmyaFmt.lawS3185AReads (mpath nil_of_isEmpty path_any member_any fault_any wrong_any kind_odd call14 guardF shape9 op9 Odd anyElem law9 key key_inj key_of isKey)

/-- All is kept but the walker (block R) and rows of faults that lie from base on. -/
structure KF (base R : Nat) (w w' : World) : Prop where
  os : w'.os = w.os
  tape : w'.tape = w.tape
  output : w'.output = w.output
  size : w.heap.size ≤ w'.heap.size
  block : ∀ k, k < w.heap.size → k ≠ R → (k < base ∨ ∀ cs fr, w.heap[k]? ≠ some (.cells cs 33 fr)) → w'.heap[k]? = w.heap[k]?

section
variable {base R : Nat} {a b c w w' : World}
theorem KF.refl (base R : Nat) (w : World) : KF base R w w := ⟨rfl, rfl, rfl, Nat.le_refl _, fun _ _ _ _ => rfl⟩
theorem KF.trans (h : KF base R a b) (k : KF base R b c) : KF base R a c :=
  ⟨k.os.trans h.os, k.tape.trans h.tape, k.output.trans h.output, Nat.le_trans h.size k.size, fun i hi hR hn => by
    have e := h.block i hi hR hn
    have := h.size
    exact (k.block i (by omega) hR (by rw [e]; exact hn)).trans e⟩
theorem KF.of_below (h : Below w.heap.size w w') : KF base R w w' := ⟨h.os, h.tape, h.output, h.size, fun k hk _ _ => h.block k hk⟩
theorem KF.below (h : KF base R w w') (hb : base ≤ R) (hs : base ≤ w.heap.size) : Below base w w' := ⟨h.os, h.tape, h.output, h.size, fun k hk => h.block k (by omega) (by omega) (.inl hk)⟩
/-- A block of cells of another type is kept. -/
theorem KF.cells (h : KF base R w w') {k : Nat} {cs : Array Value} {t : TypeId} {fr : Nat × Nat} (hk : w.heap[k]? = some (.cells cs t fr)) (hR : k ≠ R) (ht : t ≠ 33) : w'.heap[k]? = some (.cells cs t fr) := by
  rw [← hk]
  refine h.block k (Array.getElem?_eq_some_iff.1 hk).1 hR (.inr fun cs' fr' e => ?_)
  rw [hk] at e
  simp at e
  exact ht e.2.1
/-- What is no cells is kept. -/
theorem KF.other (h : KF base R w w') {k : Nat} {o : Obj} (hk : w.heap[k]? = some o) (hR : k ≠ R) (ho : o.isCells = false) : w'.heap[k]? = some o := by
  rw [← hk]
  refine h.block k (Array.getElem?_eq_some_iff.1 hk).1 hR (.inr fun cs' fr' e => ?_)
  rw [hk] at e
  cases e
  cases ho
theorem KF.alloc (w : World) (o : Obj) : KF base R w (w.alloc o) := KF.of_below ((Below.refl _ _).alloc (Nat.le_refl _) _)
end

/-- The walker holds n faults, xs. -/
structure Flt (base R : Nat) (w : World) (n : Nat) (xs : List Value) : Prop where
  le : base ≤ R
  row : ∃ v, Boxed w R 30 v ∧ w.ownsRow base 33 2 v n xs

section
variable {base R n : Nat} {w w' : World} {xs : List Value}
theorem Flt.lt (h : Flt base R w n xs) : R < w.heap.size := by obtain ⟨v, hb, _⟩ := h.row; exact hb.lt
theorem Flt.sz (h : Flt base R w n xs) : base ≤ w.heap.size := by have := h.le; have := h.lt; omega
theorem Flt.not_box (h : Flt base R w n xs) {k : Nat} {cs : Array Value} {t : TypeId} {fr : Nat × Nat} (hk : w.heap[k]? = some (.cells cs t fr)) (ht : t ≠ 30) : k ≠ R := by
  rintro rfl
  obtain ⟨v, hb, _⟩ := h.row
  have := (show w.heap[k]? = _ from hb).symm.trans hk
  simp at this
  exact ht this.2.1.symm
theorem Flt.not_map (h : Flt base R w n xs) {k : Nat} {o : Obj} (hk : w.heap[k]? = some o) (ho : o.isCells = false) : k ≠ R := by
  rintro rfl
  obtain ⟨v, hb, _⟩ := h.row
  have := (show w.heap[k]? = _ from hb).symm.trans hk
  cases this
  cases ho
/-- Behind steps that turn nothing. -/
theorem Flt.below (h : Flt base R w n xs) (hb : Below w.heap.size w w') : Flt base R w' n xs := by
  obtain ⟨v, hv, ho⟩ := h.row
  have hg : w.grownBy w' none := ⟨hb.os, hb.tape, hb.output, hb.size, fun i hi _ => hb.block i hi⟩
  exact ⟨h.le, v, hv.kept hg (by simp), ho.kept hg (by by_cases e : v.ownBlock = none <;> simp [e])⟩
/-- Behind a step that turns one block that is no row of faults. -/
theorem Flt.grown {r : Nat} (h : Flt base R w n xs) (hg : w.grownBy w' (some r)) (hr : r ≠ R) (h3 : ∀ cs fr, w.heap[r]? ≠ some (.cells cs 33 fr)) : Flt base R w' n xs := by
  obtain ⟨v, hv, ho⟩ := h.row
  refine ⟨h.le, v, hv.kept hg (fun e => hr (by simpa using e.symm)), ho.kept hg ?_⟩
  rcases ho.2 with ⟨rfl, _⟩ | ⟨g, cap, cur, rfl, _, hgb, _⟩
  · exact .inl rfl
  · refine .inr fun e => ?_
    simp [Value.ownBlock] at e
    subst e
    exact h3 _ _ hgb
end

/-- A fault is recorded. -/
theorem flt_step {base R n : Nat} {w w1 : World} {v : Value} {xs ys : List Value} {g cap : Nat} (le : base ≤ R) (hv : Boxed w R 30 v) (ho : w.ownsRow base 33 2 v n xs)
    (ho1 : w1.ownsRow base 33 2 (.slice (some ⟨g, 0, none⟩) (n + 1) cap) (n + 1) ys) (hg : w.grownBy w1 v.ownBlock) :
    Flt base R (w1.setCell ⟨R, 0, none⟩ (.slice (some ⟨g, 0, none⟩) (n + 1) cap)) (n + 1) ys ∧ KF base R w (w1.setCell ⟨R, 0, none⟩ (.slice (some ⟨g, 0, none⟩) (n + 1) cap)) := by
  have hv1 : Boxed w1 R 30 v := hv.kept hg (hv.not_row (by decide) ho)
  refine ⟨⟨le, _, hv1.set _, ho1.kept (grownBy_setCell' w1 R _) (.inr (hv1.not_row (by decide) ho1).symm)⟩, ⟨hg.os, hg.tape, hg.output, Nat.le_trans hg.size (grownBy_setCell' w1 R _).size, fun k hk hR hn => ?_⟩⟩
  rw [Below.heap_setCell _ _ _ _ hR]
  refine hg.block k hk fun e => ?_
  rcases ho.2 with ⟨rfl, _⟩ | ⟨g', cap', cur, rfl, hb, hgb, _⟩
  · simp [Value.ownBlock] at e
  · simp [Value.ownBlock] at e
    subst e
    rcases hn with hn | hn
    · omega
    · exact hn _ _ hgb

theorem fault' (base R n : Nat) (xs : List Value) (p q : ByteArray) (w : World) (hn : n ≤ 200000000) (h : Flt base R w n xs) :
    Calls Ybaf.prog 10 #[.pointer (some ⟨R, 0, none⟩), .string p, .string q] w fun e w' => e = .returned (.tuple #[]) ∧ Flt base R w' (n + 1) (xs ++ [.string p, .string q]) ∧ KF base R w w' := by
  have hs := h.sz
  obtain ⟨le, v, hv, ho⟩ := h
  refine (fault_any base R n v xs p q w hn hs hv.cell hv.frozen (hv.not_row (by decide) ho) ho).mono ?_
  rintro e w' ⟨g, cap, w1, rfl, ho1, hg, _, rfl⟩
  exact ⟨rfl, flt_step le hv ho ho1 hg⟩

theorem wrong' (F : Interp) (base R n : Nat) (x : Value) (xs : List Value) (p want : ByteArray) (w : World) (hF : F.answers w.tape) (hn : n ≤ 100000000) (h : Flt base R w n xs) (hx : Odd x) :
    Calls Ybaf.prog 18 #[.pointer (some ⟨R, 0, none⟩), .string p, .string want, x] w fun e w' => ∃ q, e = .returned (.tuple #[]) ∧ Flt base R w' (n + 1) (xs ++ [.string p, .string q]) ∧ KF base R w w' := by
  have hs := h.sz
  obtain ⟨le, v, hv, ho⟩ := h
  refine (wrong_any F base R n v x xs p w hF hn hs hv.cell hv.frozen (hv.not_row (by decide) ho) ho want hx).mono ?_
  rintro e w' ⟨g, cap, w1, q, rfl, ho1, hg, _, rfl⟩
  exact ⟨q, rfl, flt_step le hv ho ho1 hg⟩

theorem fmtQ : FmtStop.printed? ⟨#[114, 111, 108, 101, 32, 37, 113, 32, 105, 115, 32, 110, 111, 116, 32, 105, 110, 32, 116, 104, 101, 32, 99, 97, 116, 97, 108, 111, 103, 117, 101, 39, 115, 32, 114, 111, 108, 101, 115]⟩ 1 = some [(0, 113, false)] := by kernel_rfl
theorem fmtQr (w : World) : (FmtDoors.printed ⟨#[114, 111, 108, 101, 32, 37, 113, 32, 105, 115, 32, 110, 111, 116, 32, 105, 110, 32, 116, 104, 101, 32, 99, 97, 116, 97, 108, 111, 103, 117, 101, 39, 115, 32, 114, 111, 108, 101, 115]⟩ 1).run Ybaf.prog w = .ok [(0, 113, false)] w := by kernel_rfl
theorem fmtI : FmtStop.printed? ⟨#[37, 115, 91, 37, 100, 93]⟩ 2 = some [(0, 115, false), (1, 100, false)] := by kernel_rfl
theorem fmtIr (w : World) : (FmtDoors.printed ⟨#[37, 115, 91, 37, 100, 93]⟩ 2).run Ybaf.prog w = .ok [(0, 115, false), (1, 100, false)] w := by kernel_rfl
theorem op9q (name : String) (x : ByteArray) (w : World) : (FmtStop.operand name false 113 false (.iface 9 (.string x))).run Ybaf.prog w = .ok (shape9, FmtStop.pack x.data.toList) w := by kernel_rfl
def shape3 : List UInt8 := [5, 3, 0, 0, 0, 0, 0, 0, 0, 105, 110, 116]
theorem op3 (name : String) (x : Int) (w : World) : (FmtStop.operand name false 100 false (.iface 3 (.int .i64 x))).run Ybaf.prog w = .ok (shape3, Go.Extern.Stop.digits 8 (x % 2 ^ 64).toNat) w := by kernel_rfl
end Go.Proofs.YbulkbmyaFmt.lawS3185BReads
