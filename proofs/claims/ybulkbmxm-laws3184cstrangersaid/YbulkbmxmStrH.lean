/- rumorwire.zzs3184ccheck: plain facts on its two rows. -/
import Derived.Test.YbulkbmxmStrG
namespace Go.Proofs.Ybulkbmxm.lawS3184CStranger
open Go.RowKit

theorem flat_at : ∀ (ps : List Int) (j i : Nat), j < ps.length → i < 4 → (flat ps)[j * 4 + i]? = (ap (ps.getD j 0))[i]?
  | p :: ps, 0, i, _, hi => by
    have e : flat (p :: ps) = ap p ++ flat ps := by simp [flat]
    rw [e, Nat.zero_mul, Nat.zero_add, List.getElem?_append_left (by simpa [ap] using hi)]
    rfl
  | p :: ps, j + 1, i, hj, hi => by
    have e : flat (p :: ps) = ap p ++ flat ps := by simp [flat]
    have l : (ap p).length = 4 := rfl
    rw [e, List.getElem?_append_right (by rw [l]; omega), l, show (j + 1) * 4 + i - 4 = j * 4 + i by omega, flat_at ps j i (by simpa using hj) hi]
    simp

/-- The address at place j of the row G has the port p. -/
structure AddrAt (w : World) (G j : Nat) (p : Int) : Prop where
  a0 : w.cell? ⟨G, j * 4, none⟩ = some (.int .u64 0)
  a1 : w.cell? ⟨G, j * 4 + 1, none⟩ = some (.int .u64 0)
  a2 : w.cell? ⟨G, j * 4 + 2, none⟩ = some (.pointer none)
  a3 : w.cell? ⟨G, j * 4 + 3, none⟩ = some (.int .u16 p)

theorem addr_at {w : World} {base G n cap : Nat} {ps : List Int} (h : w.ownsRow base 50 4 (.slice (some ⟨G, 0, none⟩) n cap) n (flat ps)) (hl : ps.length = n) : ∀ j, j < n → AddrAt w G j (ps.getD j 0) := by
  intro j hj
  have c : ∀ i, i < 4 → w.cell? ⟨G, j * 4 + i, none⟩ = (ap (ps.getD j 0))[i]? := fun i hi => by
    rw [h.cellAt (j * 4 + i) (by omega), flat_at ps j i (by omega) hi]
  exact ⟨c 0 (by omega), c 1 (by omega), c 2 (by omega), c 3 (by omega)⟩

theorem AddrAt.congr {w w' : World} {G j : Nat} {p : Int} (h : AddrAt w G j p) (hc : ∀ i, w'.cell? ⟨G, i, none⟩ = w.cell? ⟨G, i, none⟩) : AddrAt w' G j p :=
  ⟨(hc _).trans h.a0, (hc _).trans h.a1, (hc _).trans h.a2, (hc _).trans h.a3⟩

theorem flat5_set : ∀ (qs : List Int) (k : Nat) (p : Int), k < qs.length → (((((flat5 qs).set (k * 5) (.int .u64 0)).set (k * 5 + 1) (.int .u64 0)).set (k * 5 + 2) (.pointer none)).set (k * 5 + 3) (.int .u16 p)).set (k * 5 + 4) (.slice none 0 0) = flat5 (qs.set k p)
  | q :: qs, 0, p, _ => by simp [flat5, fr5]
  | q :: qs, k + 1, p, h => by
    have e : flat5 (q :: qs) = fr5 q ++ flat5 qs := by simp [flat5]
    have e' : flat5 ((q :: qs).set (k + 1) p) = fr5 q ++ flat5 (qs.set k p) := by simp [flat5]
    have l : (fr5 q).length = 5 := rfl
    have st : ∀ (ys : List Value) (i : Nat) (u : Value), (fr5 q ++ ys).set ((k + 1) * 5 + i) u = fr5 q ++ ys.set (k * 5 + i) u := fun ys i u => by
      rw [List.set_append_right _ _ (by rw [l]; omega), l, show (k + 1) * 5 + i - 5 = k * 5 + i by omega]
    have s0 := st (flat5 qs) 0
    simp only [Nat.add_zero] at s0
    rw [e, e', s0, st, st, st, st, flat5_set qs k p (by simpa using h)]

theorem flat5_length (ps : List Int) : (flat5 ps).length = ps.length * 5 := by
  induction ps with
  | nil => rfl
  | cons p ps ih =>
    have : flat5 (p :: ps) = fr5 p ++ flat5 ps := by simp [flat5]
    rw [this, List.length_append, ih]
    simp [fr5]; omega

theorem made_frames (n : Nat) : (madeCells (Value.cells (.agg #[.int .u64 0, .int .u64 0, .pointer none, .int .u16 0, .slice none 0 0])) (n * 5)).toList = flat5 (List.replicate n 0) := by
  apply List.ext_getElem?
  intro j
  by_cases hj : j < n * 5
  · have hd : j / 5 < n := by omega
    have hm : j % 5 < 5 := by omega
    have e := flat5_at (List.replicate n 0) (j / 5) (j % 5) (by simpa using hd) hm
    rw [show j / 5 * 5 + j % 5 = j by omega] at e
    rw [e]
    have z : (List.replicate n (0 : Int)).getD (j / 5) 0 = 0 := by simp [List.getD, hd]
    rw [z]
    have hcs : ∀ i, i < 5 → (#[(.int .u64 0 : Value), .int .u64 0, .pointer none, .int .u16 0, .slice none 0 0] : Array Value)[i]? = (fr5 0)[i]? := fun i _ => by simp [fr5]
    rw [← hcs _ hm]
    generalize hA : (#[(.int .u64 0 : Value), .int .u64 0, .pointer none, .int .u16 0, .slice none 0 0] : Array Value) = A
    have sA : A.size = 5 := by rw [← hA]; rfl
    simp only [madeCells, Value.cells, sA]
    rw [Array.toList_map, List.getElem?_map, Array.getElem?_toList, Array.getElem?_range, if_pos hj]
    show some (A[j % 5]!) = _
    rw [getElem!_pos A _ (by omega), Array.getElem?_eq_getElem (by omega)]
  · rw [List.getElem?_eq_none (by simp [madeCells]; omega), List.getElem?_eq_none (by rw [flat5_length]; simp; omega)]
end Go.Proofs.Ybulkbmxm.lawS3184CStranger
