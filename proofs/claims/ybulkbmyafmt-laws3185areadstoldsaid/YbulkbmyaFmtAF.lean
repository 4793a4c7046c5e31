/- tiergate.LawS3185AReads: plain facts on the faults' row, and the law at 'append([]Fault(nil), prior...)'. -/
import Derived.Test.YbulkbmyaFmtAD
import Derived.Laws.AppendOwnNone
namespace Go.Proofs.YbulkbmyaFmt.lawS3185AReads
open Go.RowKit

/-- The first n faults' cells. -/
def flt (P Q : Nat → ByteArray) : Nat → List Value
  | 0 => []
  | n + 1 => flt P Q n ++ [.string (P n), .string (Q n)]

theorem flt_length (P Q : Nat → ByteArray) : ∀ n, (flt P Q n).length = n * 2
  | 0 => rfl
  | n + 1 => by rw [flt, List.length_append, flt_length P Q n]; simp; omega

theorem flt_at (P Q : Nat → ByteArray) : ∀ n j, j < n → (flt P Q n)[j * 2]? = some (.string (P j)) ∧ (flt P Q n)[j * 2 + 1]? = some (.string (Q j))
  | n + 1, j, h => by
    by_cases e : j = n
    · subst e
      rw [flt, List.getElem?_append_right (by rw [flt_length]; omega), List.getElem?_append_right (by rw [flt_length]; omega), flt_length]
      constructor
      · rw [show j * 2 - j * 2 = 0 by omega]; rfl
      · rw [show j * 2 + 1 - j * 2 = 1 by omega]; rfl
    · rw [flt, List.getElem?_append_left (by rw [flt_length]; omega), List.getElem?_append_left (by rw [flt_length]; omega)]
      exact flt_at P Q n j (by omega)

theorem flt_one (P Q : Nat → ByteArray) : ∀ n, ∀ u ∈ flt P Q n, u.oneCell' = true
  | 0, u, h => by simp [flt] at h
  | n + 1, u, h => by
    rw [flt, List.mem_append] at h
    rcases h with h | h
    · exact flt_one P Q n u h
    · simp at h
      rcases h with rfl | rfl <;> rfl

theorem flt_news {P Q : Nat → ByteArray} {n : Nat} {w : World} {ad : Addr} (h : ∀ j, j < n → w.cell? (ad.add (j * 2)) = some (.string (P j)) ∧ w.cell? (ad.add (j * 2 + 1)) = some (.string (Q j))) :
    ∀ i u, (flt P Q n)[i]? = some u → w.cell? (ad.add i) = some u := by
  intro i u hu
  have hi : i < n * 2 := by
    have := (List.getElem?_eq_some_iff.1 hu).1
    rwa [flt_length] at this
  obtain ⟨h0, h1⟩ := h (i / 2) (by omega)
  obtain ⟨g0, g1⟩ := flt_at P Q n (i / 2) (by omega)
  rcases (show i = i / 2 * 2 ∨ i = i / 2 * 2 + 1 by omega) with e | e
  · rw [← e] at h0 g0
    rw [g0] at hu
    rw [h0]; exact hu
  · rw [← e] at h1 g1
    rw [g1] at hu
    rw [h1]; exact hu

/-- 'append([]T(nil), xs...)': xs nil, empty or not: the result is written out, its address a letter. -/
theorem wpList_append_nil {P : Program} {w : World} {ops : Array Oper} {rest : List Oper} {o : Oper} {a : Act} {Q : Exit → Act → World → Prop} (hgd : o.guard = none) (s x : Operand) (t : TypeId)
    (ho : o.op = .call { callee := .builtin .append, args := #[s, x], argTypes := #[t, t] })
    (base : Nat) (e : TypeId) (i : TypeInfo) (z : Value) (size bytes : Nat) (ht : P.underlying t = some (.slice e)) (hi : P.info? e = some i) (hz : i.zero = some z)
    (hsize : i.size = size) (hby : i.bytes = bytes) (hzs : z.cells.size = size) (hsz : 0 < size)
    (hs : a.eval s = .slice none 0 0) (ao : Option Addr) (m c : Nat) (news : List Value) (hx : a.eval x = .slice ao m c) (hnone : ao = none → m = 0 ∧ c = 0) (hl : news.length = m * size)
    (hnews : ∀ ad, ao = some ad → ∀ j u, news[j]? = some u → w.cell? (ad.add j) = some u) (h1 : ∀ u ∈ news, u.oneCell' = true)
    (h63 : m ≤ maxLen) (hbytes : m * bytes ≤ 140737488355328) (hbase : base ≤ w.heap.size)
    (h : ∀ va vc w', w'.ownsRow base e size (.slice va m vc) m news → w.grownBy w' none → (va = none → m = 0) → wpList P ops Q rest (a.put o.dst (.slice va m vc)) w') : wpList P ops Q (o :: rest) a w := by
  have own0 : w.ownsRow base e size (.slice none 0 0) 0 [] := World.ownsRow_nil _ _ _ _
  cases ao with
  | none =>
    obtain ⟨rfl, rfl⟩ := hnone rfl
    obtain rfl : news = [] := List.eq_nil_of_length_eq_zero (by simpa using hl)
    exact wpList_append_own_none hgd s x t ho base e i size ht hi _ 0 [] hs own0 hx (h none 0 w own0 (World.grownBy.refl _ _) (fun _ => rfl))
  | some ad =>
    refine wpList_append_own w hgd s x t ho base e i z size bytes ht hi hz hsize hby hzs hsz (.slice none 0 0) 0 [] hs own0 ad m c news hx hl (hnews ad rfl) h1 (by omega) (by simpa using hbytes) hbase ?_
    intro v' w' hown hgrow _
    rw [Nat.zero_add, List.nil_append] at hown
    rcases hown.2 with ⟨rfl, rfl⟩ | ⟨g, cap, cur, rfl, _⟩
    · exact h none 0 w' hown hgrow (fun _ => rfl)
    · exact h (some ⟨g, 0, none⟩) cap w' hown hgrow (fun h => by cases h)
end Go.Proofs.YbulkbmyaFmt.lawS3185AReads
