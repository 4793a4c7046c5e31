/- tiergate.LawS3185BReads: the names and the entries, opened. -/
import Derived.Test.YbulkbmyaFmtBJ
import Derived.ProofKit
import Derived.OpenShut
import Derived.ShutString
import Derived.ChangeOld
import Derived.SizedLaws
import Derived.Deep.Slices
import Derived.Deep.Strs
namespace Go.Proofs.YbulkbmyaFmt.lawS3185BReads
open Go.RowKit Go.Deep Go.ChangeShapes Go.WideShapes

theorem cells40 : Ybaf.prog.cellsOf 40 = 3 := by kernel_rfl
theorem cells48 : Ybaf.prog.cellsOf 48 = 2 := by kernel_rfl
theorem cells38 : Ybaf.prog.cellsOf 38 = 1 := by kernel_rfl
theorem cells9 : Ybaf.prog.cellsOf 9 = 1 := by kernel_rfl
theorem cells5 : Ybaf.prog.cellsOf 5 = 1 := by kernel_rfl

theorem mem_weightsAll {H : Type} {P : Program} {e : TypeId} {n : Nat} : ∀ {l : List (DataW H)} {d : DataW H}, d ∈ l → n ∈ d.weights P e → n ∈ DataW.weightsAll P e l
  | x :: l, d, hd, hn => by
    simp only [DataW.weightsAll, List.mem_append]
    rcases List.mem_cons.1 hd with rfl | h
    · exact Or.inl hn
    · exact Or.inr (mem_weightsAll h hn)

/-- The cells of element i of a slice of structs of three cells. -/
theorem three_cells {W : World} {a : Addr} {i : Nat} {cs : List Value} (h : W.cells? 0 (a.add (i * 3)) 3 = some cs) : ∃ c0 c1 c2, cs = [c0, c1, c2] ∧ W.cell? (a.add (i * 3)) = some c0 ∧ W.cell? (a.add (i * 3 + 1)) = some c1 ∧ W.cell? (a.add (i * 3 + 2)) = some c2 := by
  obtain ⟨_, hl, hc⟩ := World.cells?_some h
  match cs, hl with
  | [c0, c1, c2], _ =>
    have h0 := hc 0 (by omega)
    have h1 := hc 1 (by omega)
    have h2 := hc 2 (by omega)
    rw [add_add] at h0 h1 h2
    exact ⟨c0, c1, c2, rfl, h0, h1, h2⟩
theorem two_cells {W : World} {a : Addr} {i : Nat} {cs : List Value} (h : W.cells? 0 (a.add (i * 2)) 2 = some cs) : ∃ c0 c1, cs = [c0, c1] ∧ W.cell? (a.add (i * 2)) = some c0 ∧ W.cell? (a.add (i * 2 + 1)) = some c1 := by
  obtain ⟨_, hl, hc⟩ := World.cells?_some h
  match cs, hl with
  | [c0, c1], _ =>
    have h0 := hc 0 (by omega)
    have h1 := hc 1 (by omega)
    rw [add_add] at h0 h1
    exact ⟨c0, c1, rfl, h0, h1⟩
theorem plain_of {W : World} {a : Addr} {n : Nat} {cs : List Value} (h : W.cells? 0 (a.add 0) (n + 1) = some cs) : ∃ b o, a = ⟨b, o, none⟩ := by
  obtain ⟨_, hl, hc⟩ := World.cells?_some h
  match cs, hl with
  | c :: _, _ =>
    have h0 := hc 0 (by omega)
    rw [add_add] at h0
    obtain ⟨b, o, spot⟩ := a
    have hspot : spot = none := by simpa [Addr.add] using World.cell?_spot h0
    subst hspot
    exact ⟨b, o, rfl⟩
theorem plain_zero {W : World} {a : Addr} {v : Value} (h : W.cell? (a.add 0) = some v) : ∃ b o, a = ⟨b, o, none⟩ := by
  obtain ⟨b, o, spot⟩ := a
  have hspot : spot = none := by simpa [Addr.add] using World.cell?_spot h
  subst hspot
  exact ⟨b, o, rfl⟩

section
variable {H : Type} {enc : TypeId × Value → H} {W : World}

theorem open_names {a : Option Addr} {len cap : Nat} {d : DataW H} {ps : List MemPlace} (h : DataW.Trod enc Ybaf.prog W 0 (fun _ => true) true 36 (.slice a len cap) d ps) :
    ∃ N : List ByteArray, N.length = len ∧ StrsAt W a N ∧ (∀ s ∈ N, s.size ≤ maxLen) ∧ len ≤ maxLen := by
  obtain ⟨fuel, hf⟩ := h
  rcases open_strs Ybaf.underlying36 Ybaf.underlying9 cells9 hf with ⟨hv, _⟩ | ⟨y, l', c', m', Sx, hv, _, hl', hm', hmm', _, hs⟩
  · simp [Value.cells] at hv
    obtain ⟨rfl, rfl, rfl⟩ := hv
    exact ⟨[], rfl, fun h => absurd h (Nat.lt_irrefl _), fun s h => (by simp at h), by simp⟩
  · simp [Value.cells] at hv
    obtain ⟨rfl, rfl, rfl⟩ := hv
    simp only [if_true] at hmm'
    subst hmm'
    refine ⟨(List.range len).map Sx, by simp, fun h0 => ?_, fun s hs' => ?_, by omega⟩
    · simp only [List.length_map, List.length_range] at h0
      obtain ⟨b, o, rfl⟩ : ∃ b o, y = ⟨b, o, none⟩ := plain_zero (hs 0 (by omega)).1
      have hb : b < W.heap.size := by
        have h1 := (hs 0 (by omega)).1
        rw [add_plain] at h1
        simpa using block_lt_of_cell h1
      refine ⟨b, o, rfl, hb, fun i hi => ?_⟩
      simp only [List.length_map, List.length_range] at hi
      have h1 := (hs i (by omega)).1
      rw [add_plain] at h1
      rw [h1, List.getD_eq_getElem?_getD]
      simp [hi]
    · obtain ⟨i, hi, rfl⟩ := List.mem_map.1 hs'
      exact (hs i (by have := List.mem_range.1 hi; omega)).2

/-- One entry. -/
structure Ent1 where
  K : ByteArray
  kd : Int
  ea : Option Addr
  el : Nat
  ec : Nat
  S : Nat → ByteArray
  sk : Nat → Int

/-- The elements of an entry. -/
theorem open_elems {fuel : Nat} {c2 : Value} {y : DataW H} {q : List MemPlace} (ht : DataW.trod enc Ybaf.prog W 0 (fun _ => true) true fuel 38 [c2] = some (y, q)) :
    ∃ (a : Option Addr) (l c : Nat) (S : Nat → ByteArray) (sk : Nat → Int), c2 = .slice a l c ∧ l ≤ maxLen ∧ (0 < l → ∃ b o, a = some ⟨b, o, none⟩ ∧ b < W.heap.size ∧ ∀ i, i < l → W.cell? ⟨b, o + i * 2, none⟩ = some (.string (S i)) ∧ W.cell? ⟨b, o + i * 2 + 1, none⟩ = some (.int .u8 (sk i))) ∧
      (∀ i, i < l → 0 ≤ sk i ∧ sk i ≤ 255) ∧ (∀ i, i < l → (S i).size ≤ maxLen) := by
  rcases open_slice Ybaf.underlying38 ht with ⟨hcs, _⟩ | ⟨x, l, c, m, n, D, Pl, hcs, _, hl, hm, hmm, hx, hel⟩
  · simp only [List.cons.injEq, and_true] at hcs
    exact ⟨none, 0, 0, fun _ => ⟨#[]⟩, fun _ => 0, hcs, by simp, fun h => absurd h (Nat.lt_irrefl _), fun i h => absurd h (Nat.not_lt_zero _), fun i h => absurd h (Nat.not_lt_zero _)⟩
  · simp only [List.cons.injEq, and_true] at hcs
    simp only [if_true] at hmm
    subst hmm
    have each : ∀ i, i < l → ∃ t : ByteArray × Int, (∃ b o, x = ⟨b, o, none⟩ ∧ b < W.heap.size ∧ W.cell? ⟨b, o + i * 2, none⟩ = some (.string t.1) ∧ W.cell? ⟨b, o + i * 2 + 1, none⟩ = some (.int .u8 t.2)) ∧ (0 ≤ t.2 ∧ t.2 ≤ 255) ∧ t.1.size ≤ maxLen := by
      intro i hi
      obtain ⟨b, o, rfl⟩ : ∃ b o, x = ⟨b, o, none⟩ := by
        obtain ⟨cs', hc, _⟩ := hel 0 (by omega)
        simp only [cells48, Nat.zero_mul] at hc
        exact plain_of hc
      obtain ⟨cs', hc, ht⟩ := hel i (by omega)
      rw [cells48] at hc
      obtain ⟨c0, c1, rfl, e0, e1⟩ := two_cells hc
      obtain ⟨y0, y1, n', hD, _, t0, t1⟩ := trod_struct2 Ybaf.underlying48 ht
      simp only [cells9, cells5, List.drop_zero, List.take_succ_cons, List.take_zero, List.drop_succ_cons] at t0 t1
      obtain ⟨k, hk, rfl, hkz⟩ := DataW.trod_string Ybaf.underlying9 t0
      obtain ⟨s, hs, rfl, ws⟩ := DataW.trod_int Ybaf.underlying5 t1
      simp only [List.cons.injEq, and_true] at hk hs
      subst hk hs
      have ea : ∀ j, (⟨b, o, none⟩ : Addr).add j = ⟨b, o + j, none⟩ := fun j => add_plain b o j
      rw [ea] at e0 e1
      exact ⟨(k, s), ⟨b, o, rfl, by simpa using block_lt_of_cell e0, e0, e1⟩, bounds_u8 ws, hkz⟩
    obtain ⟨f, hf'⟩ := choose_lt each
    refine ⟨some x, l, m, fun i => (f i).1, fun i => (f i).2, hcs, by omega, fun h0 => ?_, fun i hi => (hf' i hi).2.1, fun i hi => (hf' i hi).2.2⟩
    obtain ⟨⟨b, o, rfl, hb, _⟩, _⟩ := hf' 0 h0
    refine ⟨b, o, rfl, hb, fun i hi => ?_⟩
    obtain ⟨⟨b', o', e, _, h1, h2⟩, _⟩ := hf' i hi
    simp only [Addr.mk.injEq, and_true] at e
    obtain ⟨rfl, rfl⟩ := e
    exact ⟨h1, h2⟩

theorem open_ents {a : Option Addr} {len cap : Nat} {d : DataW H} {ps : List MemPlace} (h : DataW.Trod enc Ybaf.prog W 0 (fun _ => true) true 37 (.slice a len cap) d ps) :
    ∃ E : Ents, E.a = a ∧ E.n = len ∧ len ≤ maxLen ∧ (∀ j, j < E.n → (E.K j).data.toList.length ∈ d.weights Ybaf.prog 37) ∧ ((∀ j, j < E.n → (E.K j).size ≤ 140737488355328) → E.In W) := by
  obtain ⟨fuel, hf⟩ := h
  have hmax : ∀ k : Nat, k ≤ maxLen → k ≤ 9223372036854775807 := fun k hk => by unfold maxLen at hk; exact hk
  rcases open_slice Ybaf.underlying37 hf with ⟨hcs, _⟩ | ⟨x, l, c, m, n, D, Pl, hcs, _, hl, hm, hmm, hx, hel⟩
  · simp [Value.cells] at hcs
    obtain ⟨rfl, rfl, rfl⟩ := hcs
    exact ⟨⟨none, 0, fun _ => ⟨#[]⟩, fun _ => 0, fun _ => none, fun _ => 0, fun _ => 0, fun _ _ => ⟨#[]⟩, fun _ _ => 0⟩, rfl, rfl, by simp, fun j h => absurd h (Nat.not_lt_zero _),
      fun _ => ⟨fun j h => absurd h (Nat.not_lt_zero _), fun j h => absurd h (Nat.not_lt_zero _), fun j h => absurd h (Nat.not_lt_zero _), fun j h => absurd h (Nat.not_lt_zero _), fun j h => absurd h (Nat.not_lt_zero _), fun j h => absurd h (Nat.not_lt_zero _), Nat.zero_le _, fun j h => absurd h (Nat.not_lt_zero _)⟩⟩
  · simp [Value.cells] at hcs
    obtain ⟨rfl, rfl, rfl⟩ := hcs
    simp only [if_true] at hmm
    subst hmm
    have each : ∀ i, i < len → ∃ t : Ent1, (∃ b o, x = ⟨b, o, none⟩ ∧ b < W.heap.size ∧ W.cell? ⟨b, o + i * 3, none⟩ = some (.string t.K) ∧ W.cell? ⟨b, o + i * 3 + 1, none⟩ = some (.int .u8 t.kd) ∧ W.cell? ⟨b, o + i * 3 + 2, none⟩ = some (.slice t.ea t.el t.ec)) ∧
        (0 < t.el → ∃ b o, t.ea = some ⟨b, o, none⟩ ∧ b < W.heap.size ∧ ∀ r, r < t.el → W.cell? ⟨b, o + r * 2, none⟩ = some (.string (t.S r)) ∧ W.cell? ⟨b, o + r * 2 + 1, none⟩ = some (.int .u8 (t.sk r))) ∧
        (0 ≤ t.kd ∧ t.kd ≤ 255) ∧ (∀ r, r < t.el → 0 ≤ t.sk r ∧ t.sk r ≤ 255) ∧ (∀ r, r < t.el → (t.S r).size ≤ maxLen) ∧ t.el ≤ maxLen ∧ ∃ y1 y2, D i = .agg [.lit (.string t.K.data.toList), y1, y2] := by
      intro i hi
      obtain ⟨b, o, rfl⟩ : ∃ b o, x = ⟨b, o, none⟩ := by
        obtain ⟨cs', hc, _⟩ := hel 0 (by omega)
        simp only [cells40, Nat.zero_mul] at hc
        exact plain_of hc
      obtain ⟨cs', hc, ht⟩ := hel i (by omega)
      rw [cells40] at hc
      obtain ⟨c0, c1, c2, rfl, e0, e1, e2⟩ := three_cells hc
      obtain ⟨y0, y1, y2, n', hD, _, t0, t1, t2⟩ := trod_struct3 Ybaf.underlying40 ht
      simp only [cells9, cells5, cells38, List.drop_zero, List.take_succ_cons, List.take_zero, List.drop_succ_cons] at t0 t1 t2
      obtain ⟨k, hk, rfl, _⟩ := DataW.trod_string Ybaf.underlying9 t0
      obtain ⟨q, hq, rfl, wq⟩ := DataW.trod_int Ybaf.underlying5 t1
      simp only [List.cons.injEq, and_true] at hk hq
      subst hk hq
      obtain ⟨la, ll, lc, S, sk, rfl, h1, h2, h3, h4⟩ := open_elems t2
      have ea : ∀ j, (⟨b, o, none⟩ : Addr).add j = ⟨b, o + j, none⟩ := fun j => add_plain b o j
      rw [ea] at e0 e1 e2
      refine ⟨⟨k, q, la, ll, lc, S, sk⟩, ⟨b, o, rfl, by simpa using block_lt_of_cell e0, e0, e1, e2⟩, h2, bounds_u8 wq, h3, h4, h1, .lit (.int .u8 q), y2.1, ?_⟩
      exact congrArg Prod.fst hD
    have inst : Inhabited Ent1 := ⟨⟨⟨#[]⟩, 0, none, 0, 0, fun _ => ⟨#[]⟩, fun _ => 0⟩⟩
    obtain ⟨f, hf'⟩ := choose_lt each
    refine ⟨⟨some x, len, fun j => (f j).K, fun j => (f j).kd, fun j => (f j).ea, fun j => (f j).el, fun j => (f j).ec, fun j => (f j).S, fun j => (f j).sk⟩, rfl, rfl, by omega, fun j hj => ?_, fun hz => ⟨fun j hj => ?_, fun j hj h0 => (hf' j hj).2.1 h0, fun j hj => (hf' j hj).2.2.1, fun j hj i hi => (hf' j hj).2.2.2.1 i hi, hz, fun j hj i hi => (hf' j hj).2.2.2.2.1 i hi, hmax len (by omega), fun j hj => hmax _ (hf' j hj).2.2.2.2.2.1⟩⟩
    · simp only at hj ⊢
      simp only [Prod.mk.injEq] at hx
      rw [hx.1]
      simp only [DataW.weights, Ybaf.underlying37, List.mem_cons, List.mem_append]
      refine Or.inr (Or.inl (mem_weightsAll (d := D j) (List.mem_map.2 ⟨j, by simpa using hj, rfl⟩) ?_))
      obtain ⟨y1, y2, e⟩ := (hf' j hj).2.2.2.2.2.2
      rw [e]
      simp [DataW.weights, DataW.weightsEach, Ybaf.underlying40]
    · obtain ⟨⟨b, o, rfl, h⟩, _⟩ := hf' j hj
      exact ⟨b, o, rfl, h⟩
end
end Go.Proofs.YbulkbmyaFmt.lawS3185BReads
