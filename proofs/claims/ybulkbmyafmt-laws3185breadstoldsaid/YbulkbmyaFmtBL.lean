/- tiergate.LawS3185BReads: the value of a key. -/
import Derived.Test.YbulkbmyaFmtBJ
namespace Go.Proofs.YbulkbmyaFmt.lawS3185BReads
open Go.RowKit Go.Maps
set_option linter.unusedVariables false

/-- The value that the object has at a key: the first entry's. -/
def jof (E : Ents) (ix : List Nat) (s : ByteArray) : JV :=
  match ix.find? (fun i => decide ((E.K i).data.toList = s.data.toList)) with
  | some i => E.jv i
  | none => .arr []

theorem jof_mem {E : Ents} {i : Nat} : ∀ {ix : List Nat}, (ix.map fun i => (E.K i).data.toList).Nodup → i ∈ ix → jof E ix (E.K i) = E.jv i
  | [], _, hi => by simp at hi
  | a :: l, hnd, hi => by
    simp only [List.map_cons, List.nodup_cons] at hnd
    by_cases e : (E.K a).data.toList = (E.K i).data.toList
    · rcases List.mem_cons.1 hi with rfl | h
      · simp [jof]
      · exact absurd (List.mem_map.2 ⟨i, h, e.symm⟩) hnd.1
    · rcases List.mem_cons.1 hi with rfl | h
      · exact absurd rfl e
      · have := jof_mem hnd.2 h
        unfold jof at this ⊢
        rw [List.find?_cons_of_neg (by simpa using e)]
        exact this
end Go.Proofs.YbulkbmyaFmt.lawS3185BReads
