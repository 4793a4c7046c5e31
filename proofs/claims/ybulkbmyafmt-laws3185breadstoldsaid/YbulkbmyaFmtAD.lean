/- tiergate.LawS3185AReads: the object as the law fills it, seen at one name. -/
import Derived.Test.YbulkbmyaFmtAC
import Derived.Maps.OwnSet
namespace Go.Proofs.YbulkbmyaFmt.lawS3185AReads
open Go.RowKit Go.Maps

/-- Every element is read as itself. -/
def anyElem (v : Value) : Option (DataW Value × List MemPlace) := some (.held v, [])

theorem law9 : Keyed Ybaf.prog 9 := string_keyed Ybaf.underlying9
theorem zero20 (w : World) : (zeroValue 20).run Ybaf.prog w = .ok .nilIface w := by kernel_rfl

/-- What a name reads as. -/
def key (s : ByteArray) : Lit := .string s.data.toList
theorem key_inj {a b : ByteArray} (h : key a = key b) : a = b := by
  unfold key at h
  simp at h
  exact ByteArray.ext h
theorem key_of (s : ByteArray) (h : s.size ≤ maxLen) : keyOf Ybaf.prog 9 (.string s) = some (key s) := WideMaps.keyOf_string_mk Ybaf.underlying9 h

/-- What lies at a member of this kind and text. -/
def Fits (x : Value) (d : Int) (s : ByteArray) : Prop := (d % 5 = 0 → x = .iface 9 (.string s)) ∧ (d % 5 ≠ 0 → Odd x)

/-- The object behind k entries, seen at one name. -/
def St (K : Nat → ByteArray) (kd : Nat → Int) (S : Nat → ByteArray) (name : ByteArray) (k : Nat) (D : DataW Value) : Prop :=
  ((∀ i, i < k → K i ≠ name) ∧ Maps.has D (key name) = false) ∨
  ∃ j x, j < k ∧ K j = name ∧ (∀ i, j < i → i < k → K i ≠ name) ∧ Maps.has D (key name) = true ∧ (∀ z, D.atKey (key name) z = .held x) ∧ Fits x (kd j) (S j)

theorem st_zero (K : Nat → ByteArray) (kd : Nat → Int) (S : Nat → ByteArray) (name : ByteArray) : St K kd S name 0 (.map []) := .inl ⟨fun i h => by omega, rfl⟩

theorem isKey (s : ByteArray) : WideAt.IsKeyLit (key s) := by unfold key; trivial

theorem st_step {K : Nat → ByteArray} {kd : Nat → Int} {S : Nat → ByteArray} {name : ByteArray} {k : Nat} {D : DataW Value} (h : St K kd S name k D) (hD : IsMap D) {x : Value} (hx : Fits x (kd k) (S k)) : St K kd S name (k + 1) (D.put (key (K k)) (.held x)) := by
  by_cases e : K k = name
  · refine .inr ⟨k, x, by omega, e, fun i h1 h2 => by omega, ?_, ?_, hx⟩
    · rw [e]; exact has_put_same hD (isKey _) _
    · intro z; rw [e]; exact atKey_put_same hD (isKey _) _ _
  · have hne : key name ≠ key (K k) := fun h => e (key_inj h).symm
    rcases h with ⟨h1, h2⟩ | ⟨j, y, hj, h1, h2, h3, h4, h5⟩
    · refine .inl ⟨fun i hi => ?_, by rw [has_put_other hne]; exact h2⟩
      by_cases hik : i = k
      · subst hik; exact e
      · exact h1 i (by omega)
    · refine .inr ⟨j, y, by omega, h1, fun i hji hik => ?_, by rw [has_put_other hne]; exact h3, fun z => by rw [atKey_put_other hne]; exact h4 z, h5⟩
      by_cases hk : i = k
      · subst hk; exact e
      · exact h2 i hji (by omega)

/-- The map's block and its looks at the name. -/
theorem looks_of {K : Nat → ByteArray} {kd : Nat → Int} {S : Nat → ByteArray} {name : ByteArray} {k m : Nat} {D : DataW Value} {w : World} (hn : name.size ≤ maxLen) (h : St K kd S name k D) (ho : w.ownsMap Ybaf.prog 9 anyElem m k D) :
    ∃ es clock, w.heap[m]? = some (.map es clock) ∧
      (((∀ i, i < k → K i ≠ name) ∧ Looks m (.map es clock) name .nilIface false) ∨
       ∃ j x, j < k ∧ K j = name ∧ (∀ i, j < i → i < k → K i ≠ name) ∧ Looks m (.map es clock) name x true ∧ Fits x (kd j) (S j)) := by
  obtain ⟨es, clock, hb, hF, hs, hD⟩ := ho
  refine ⟨es, clock, hb, ?_⟩
  have look : ∀ w', w'.heap[m]? = some (.map es clock) → ∃ v ps, (Instr.lookup 26 (.map (some m)) (.string name) true).run Ybaf.prog w' = .ok (.tuple #[v, .bool (Maps.has D (key name))]) w' ∧ anyElem v = some (D.atKey (key name) (.held .nilIface), ps) := fun w' hb' =>
    World.ownsMap.look_ok (w := w') (R := anyElem) (n := k) ⟨es, clock, hb', hF, hs, hD⟩ law9 Ybaf.underlying26 (zero20 w') rfl (key_of name hn)
  rcases h with ⟨h1, h2⟩ | ⟨j, x, hj, h1, h2, h3, h4, h5⟩
  · refine .inl ⟨h1, fun w' hb' => ?_⟩
    obtain ⟨v, ps, hrun, hv⟩ := look w' hb'
    rw [atKey_of_not_has h2] at hv
    rw [h2] at hrun
    simp only [anyElem, Option.some.injEq, Prod.mk.injEq, DataW.held.injEq] at hv
    rw [hrun, hv.1]
  · refine .inr ⟨j, x, hj, h1, h2, fun w' hb' => ?_, h5⟩
    obtain ⟨v, ps, hrun, hv⟩ := look w' hb'
    rw [h4] at hv
    simp only [anyElem, Option.some.injEq, Prod.mk.injEq, DataW.held.injEq] at hv
    rw [hrun, h3, hv.1]
end Go.Proofs.YbulkbmyaFmt.lawS3185AReads
