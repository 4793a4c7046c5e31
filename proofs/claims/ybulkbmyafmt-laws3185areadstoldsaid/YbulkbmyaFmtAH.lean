/- tiergate.LawS3185AReads: its two slices of structs, opened. -/
import Derived.Test.YbulkbmyaFmtAE
import Derived.ProofKit
import Derived.OpenShut
import Derived.ShutString
import Derived.ChangeOld
import Derived.SizedLaws
import Derived.Deep.Slices
import Derived.Deep.Strs
namespace Go.Proofs.YbulkbmyaFmt.lawS3185AReads
open Go.RowKit Go.Deep Go.ChangeShapes Go.WideShapes

theorem cells25 : Ybaf.prog.cellsOf 25 = 3 := by kernel_rfl
theorem cells33 : Ybaf.prog.cellsOf 33 = 2 := by kernel_rfl
theorem cells9 : Ybaf.prog.cellsOf 9 = 1 := by kernel_rfl
theorem cells5 : Ybaf.prog.cellsOf 5 = 1 := by kernel_rfl

theorem mem_weightsAll {H : Type} {P : Program} {e : TypeId} {n : Nat} : ∀ {l : List (DataW H)} {d : DataW H}, d ∈ l → n ∈ d.weights P e → n ∈ DataW.weightsAll P e l
  | x :: l, d, hd, hn => by
    simp only [DataW.weightsAll, List.mem_append]
    rcases List.mem_cons.1 hd with rfl | h
    · exact Or.inl hn
    · exact Or.inr (mem_weightsAll h hn)

/-- The cells of element i of a slice of structs of three cells. -/
theorem three_cells {W : World} {a : Addr} {i : Nat} {cs : List Value} (h : W.cells? 0 (a.add (i * 3)) 3 = some cs) : ∃ c0 c1 c2, cs = [c0, c1, c2] ∧ W.cell? (a.add (i * 3)) = some c0 ∧ W.cell? (a.add (i * 3 + 1)) = some c1 ∧ W.cell? (a.add (i * 3 + 2)) = some c2 := by
  obtain ⟨_, hl, hc⟩ := World.cells?_some h
  match cs, hl with
  | [c0, c1, c2], _ =>
    have h0 := hc 0 (by omega)
    have h1 := hc 1 (by omega)
    have h2 := hc 2 (by omega)
    rw [add_add] at h0 h1 h2
    exact ⟨c0, c1, c2, rfl, h0, h1, h2⟩
theorem two_cells {W : World} {a : Addr} {i : Nat} {cs : List Value} (h : W.cells? 0 (a.add (i * 2)) 2 = some cs) : ∃ c0 c1, cs = [c0, c1] ∧ W.cell? (a.add (i * 2)) = some c0 ∧ W.cell? (a.add (i * 2 + 1)) = some c1 := by
  obtain ⟨_, hl, hc⟩ := World.cells?_some h
  match cs, hl with
  | [c0, c1], _ =>
    have h0 := hc 0 (by omega)
    have h1 := hc 1 (by omega)
    rw [add_add] at h0 h1
    exact ⟨c0, c1, rfl, h0, h1⟩

theorem plain_of {W : World} {a : Addr} {n : Nat} {cs : List Value} (h : W.cells? 0 (a.add 0) (n + 1) = some cs) : ∃ b o, a = ⟨b, o, none⟩ := by
  obtain ⟨_, hl, hc⟩ := World.cells?_some h
  match cs, hl with
  | c :: _, _ =>
    have h0 := hc 0 (by omega)
    rw [add_add] at h0
    obtain ⟨b, o, spot⟩ := a
    have hspot : spot = none := by simpa [Addr.add] using World.cell?_spot h0
    subst hspot
    exact ⟨b, o, rfl⟩

section
variable {H : Type} {enc : TypeId × Value → H} {W : World}

theorem open_ents {a : Option Addr} {len cap : Nat} {d : DataW H} {ps : List MemPlace} (h : DataW.Trod enc Ybaf.prog W 0 (fun _ => true) true 22 (.slice a len cap) d ps) :
    ∃ (K S : Nat → ByteArray) (kd : Nat → Int), (∀ j, j < len → EntAt W a j (K j) (kd j) (S j)) ∧ (∀ j, j < len → 0 ≤ kd j ∧ kd j ≤ 255 ∧ (K j).data.toList.length ∈ d.weights Ybaf.prog 22) ∧ len ≤ maxLen := by
  obtain ⟨fuel, hf⟩ := h
  rcases open_slice Ybaf.underlying22 hf with ⟨hcs, _⟩ | ⟨x, l, c, m, n, D, Pl, hcs, _, hl, hm, hmm, hx, hel⟩
  · simp [Value.cells] at hcs
    obtain ⟨rfl, rfl, rfl⟩ := hcs
    exact ⟨fun _ => ⟨#[]⟩, fun _ => ⟨#[]⟩, fun _ => 0, fun j h => by omega, fun j h => by omega, by simp⟩
  · simp [Value.cells] at hcs
    obtain ⟨rfl, rfl, rfl⟩ := hcs
    simp only [if_true] at hmm
    subst hmm
    have each : ∀ i, i < len → ∃ t : ByteArray × Int × ByteArray, EntAt W (some x) i t.1 t.2.1 t.2.2 ∧ (0 ≤ t.2.1 ∧ t.2.1 ≤ 255) ∧ D i = .agg [.lit (.string t.1.data.toList), .lit (.int .u8 t.2.1), .lit (.string t.2.2.data.toList)] := by
      intro i hi
      obtain ⟨b, o, rfl⟩ : ∃ b o, x = ⟨b, o, none⟩ := by
        obtain ⟨cs', hc, _⟩ := hel 0 (by omega)
        simp only [cells25, Nat.zero_mul] at hc
        exact plain_of hc
      obtain ⟨cs', hc, ht⟩ := hel i (by omega)
      rw [cells25] at hc
      obtain ⟨c0, c1, c2, rfl, e0, e1, e2⟩ := three_cells hc
      obtain ⟨y0, y1, y2, n', hD, _, t0, t1, t2⟩ := trod_struct3 Ybaf.underlying25 ht
      simp only [cells9, cells5, List.drop_zero, List.take_succ_cons, List.take_zero, List.drop_succ_cons] at t0 t1 t2
      obtain ⟨k, hk, rfl, _⟩ := DataW.trod_string Ybaf.underlying9 t0
      obtain ⟨q, hq, rfl, wq⟩ := DataW.trod_int Ybaf.underlying5 t1
      obtain ⟨s, hs, rfl, _⟩ := DataW.trod_string Ybaf.underlying9 t2
      simp only [List.cons.injEq, and_true] at hk hq hs
      subst hk hq hs
      have ea : ∀ j, (⟨b, o, none⟩ : Addr).add j = ⟨b, o + j, none⟩ := fun j => add_plain b o j
      rw [ea] at e0 e1 e2
      refine ⟨(k, q, s), ⟨b, o, rfl, by simpa using block_lt_of_cell e0, e0, e1, e2⟩, bounds_u8 wq, ?_⟩
      simpa using congrArg Prod.fst hD
    obtain ⟨f, hf'⟩ := choose_lt each
    refine ⟨fun i => (f i).1, fun i => (f i).2.2, fun i => (f i).2.1, fun j hj => (hf' j hj).1, fun j hj => ⟨(hf' j hj).2.1.1, (hf' j hj).2.1.2, ?_⟩, by omega⟩
    simp only [Prod.mk.injEq] at hx
    rw [hx.1]
    simp only [DataW.weights, Ybaf.underlying22, List.mem_cons, List.mem_append]
    refine Or.inr (Or.inl (mem_weightsAll (d := D j) (List.mem_map.2 ⟨j, by simpa using hj, rfl⟩) ?_))
    rw [(hf' j hj).2.2]
    simp [DataW.weights, DataW.weightsEach, Ybaf.underlying25]

theorem open_flts {a : Option Addr} {len cap : Nat} {d : DataW H} {ps : List MemPlace} (h : DataW.Trod enc Ybaf.prog W 0 (fun _ => true) true 23 (.slice a len cap) d ps) :
    ∃ (P Q : Nat → ByteArray), (∀ j, j < len → FltAt W a j (P j) (Q j)) ∧ (a = none → len = 0 ∧ cap = 0) ∧ len ≤ maxLen := by
  obtain ⟨fuel, hf⟩ := h
  rcases open_slice Ybaf.underlying23 hf with ⟨hcs, _⟩ | ⟨x, l, c, m, n, D, Pl, hcs, _, hl, hm, hmm, hx, hel⟩
  · simp [Value.cells] at hcs
    obtain ⟨rfl, rfl, rfl⟩ := hcs
    exact ⟨fun _ => ⟨#[]⟩, fun _ => ⟨#[]⟩, fun j h => by omega, fun _ => ⟨rfl, rfl⟩, by simp⟩
  · simp [Value.cells] at hcs
    obtain ⟨rfl, rfl, rfl⟩ := hcs
    simp only [if_true] at hmm
    subst hmm
    have each : ∀ i, i < len → ∃ t : ByteArray × ByteArray, FltAt W (some x) i t.1 t.2 := by
      intro i hi
      obtain ⟨b, o, rfl⟩ : ∃ b o, x = ⟨b, o, none⟩ := by
        obtain ⟨cs', hc, _⟩ := hel 0 (by omega)
        simp only [cells33, Nat.zero_mul] at hc
        exact plain_of hc
      obtain ⟨cs', hc, ht⟩ := hel i (by omega)
      rw [cells33] at hc
      obtain ⟨c0, c1, rfl, e0, e1⟩ := two_cells hc
      obtain ⟨y0, y1, n', hD, _, t0, t1⟩ := trod_struct2 Ybaf.underlying33 ht
      simp only [cells9, List.drop_zero, List.take_succ_cons, List.take_zero, List.drop_succ_cons] at t0 t1
      obtain ⟨k, hk, rfl, _⟩ := DataW.trod_string Ybaf.underlying9 t0
      obtain ⟨s, hs, rfl, _⟩ := DataW.trod_string Ybaf.underlying9 t1
      simp only [List.cons.injEq, and_true] at hk hs
      subst hk hs
      have ea : ∀ j, (⟨b, o, none⟩ : Addr).add j = ⟨b, o + j, none⟩ := fun j => add_plain b o j
      rw [ea] at e0 e1
      exact ⟨(k, s), ⟨b, o, rfl, by simpa using block_lt_of_cell e0, e0, e1⟩⟩
    obtain ⟨f, hf'⟩ := choose_lt each
    exact ⟨fun i => (f i).1, fun i => (f i).2, fun j hj => hf' j hj, fun h => (by simp at h), by omega⟩
end
end Go.Proofs.YbulkbmyaFmt.lawS3185AReads
