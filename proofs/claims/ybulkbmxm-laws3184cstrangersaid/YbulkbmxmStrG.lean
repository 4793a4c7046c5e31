/- (*rumorwire.Node).frame: one contract for all its ways. -/
import Derived.Test.YbulkbmxmStrF
namespace Go.Proofs.Ybulkbmxm.lawS3184CStranger
open Go.RowKit

/-- What the call answers and makes of the round's count of frames and of strangers. -/
def Verdict (n : Nat) (ps : List Int) (s me st jv : Int) (okv : Bool) (n' : Nat) (st' : Int) : Prop :=
  (∃ j : Nat, j < n ∧ ps.getD j 0 = s ∧ (∀ i, i < j → ps.getD i 0 ≠ s) ∧ jv = j ∧ okv = true ∧ n' = n ∧ st' = st) ∨
  ((∀ i, i < n → ps.getD i 0 ≠ s) ∧ s = me ∧ jv = 0 ∧ okv = false ∧ n' = n ∧ st' = st) ∨
  ((∀ i, i < n → ps.getD i 0 ≠ s) ∧ s ≠ me ∧ 256 ≤ n ∧ jv = 0 ∧ okv = false ∧ n' = n ∧ st' = st) ∨
  ((∀ i, i < n → ps.getD i 0 ≠ s) ∧ s ≠ me ∧ n < 256 ∧ st = 8 ∧ jv = 0 ∧ okv = false ∧ n' = n ∧ st' = st) ∨
  ((∀ i, i < n → ps.getD i 0 ≠ s) ∧ s ≠ me ∧ n < 256 ∧ st ≠ 8 ∧ jv = n ∧ okv = true ∧ n' = n + 1 ∧ st' = wrap64 (st + 1))

/-- What the call leaves. -/
structure Left (w w' : World) (R F n : Nat) (ps : List Int) (s me st jv : Int) (okv : Bool) (g n' cap' : Nat) (st' : Int) : Prop where
  r2 : w'.cell? ⟨R, 2, none⟩ = some (.slice (some ⟨g, 0, none⟩) n' cap')
  r14 : w'.cell? ⟨R, 14, none⟩ = some (.int .i64 st')
  frames : ∀ j, j < n' → FrameAt w' g j ((ps ++ [s]).getD j 0)
  away : Away R F w w'
  le : n ≤ n'
  small : n' ≤ 1281
  verdict : Verdict n ps s me st jv okv n' st'

theorem left_same {w w' : World} {N R F n cap : Nat} {ps : List Int} {me st : Int} {base : Nat} (S : Scene w N R F n cap ps me st base) (s : Int) (hb : Below w.heap.size w w') {jv : Int} {okv : Bool} (v : Verdict n ps s me st jv okv n st) :
    Left w w' R F n ps s me st jv okv F n cap st := by
  have hR : R < w.heap.size := block_lt_of_cell S.r2
  refine ⟨(hb.cell (p := ⟨R, 2, none⟩) hR).trans S.r2, (hb.cell (p := ⟨R, 14, none⟩) hR).trans S.r14, ?_, .of_below hb, Nat.le_refl _, by have := S.small; omega, v⟩
  intro j hj
  have h := (frame_at S.own S.len j hj).below (row_lt S.own) hb
  have e : (ps ++ [s]).getD j 0 = ps.getD j 0 := by
    have := S.len
    simp [List.getD, List.getElem?_append_left (show j < ps.length by omega)]
  rw [e]
  exact h

theorem first_or (ps : List Int) (s : Int) : ∀ n, (∃ j, j < n ∧ ps.getD j 0 = s ∧ ∀ i, i < j → ps.getD i 0 ≠ s) ∨ ∀ i, i < n → ps.getD i 0 ≠ s
  | 0 => .inr fun i h => by omega
  | n + 1 => by
    rcases first_or ps s n with ⟨j, hj, h⟩ | h
    · exact .inl ⟨j, by omega, h⟩
    · by_cases e : ps.getD n 0 = s
      · exact .inl ⟨n, by omega, e, h⟩
      · exact .inr fun i hi => by
          by_cases hin : i = n
          · subst hin; exact e
          · exact h i (by omega)

theorem frame_any {w : World} {N R F n cap : Nat} {ps : List Int} {me st : Int} {base : Nat} (S : Scene w N R F n cap ps me st base) (s : Int) :
    Calls Yba.prog 18 #[.pointer (some ⟨N, 0, none⟩), .pointer (some ⟨R, 0, none⟩), .agg #[.int .u64 0, .int .u64 0, .pointer none, .int .u16 s]] w fun e w' =>
      ∃ jv okv g n' cap' st', e = .returned (.tuple #[.int .i64 jv, .bool okv]) ∧ Left w w' R F n ps s me st jv okv g n' cap' st' := by
  rcases first_or ps s n with ⟨j, hj, hp, hf⟩ | hno
  · refine (frame_found S s j hj hp hf).mono ?_
    rintro e w' ⟨rfl, hb⟩
    exact ⟨_, _, _, _, _, _, rfl, left_same S s hb (.inl ⟨j, hj, hp, hf, rfl, rfl, rfl, rfl⟩)⟩
  · by_cases hme : s = me
    · refine (frame_me S s hno hme).mono ?_
      rintro e w' ⟨rfl, hb⟩
      exact ⟨_, _, _, _, _, _, rfl, left_same S s hb (.inr (.inl ⟨hno, hme, rfl, rfl, rfl, rfl⟩))⟩
    · by_cases hfull : 256 ≤ n
      · refine (frame_full S s hno hme hfull).mono ?_
        rintro e w' ⟨rfl, hb⟩
        exact ⟨_, _, _, _, _, _, rfl, left_same S s hb (.inr (.inr (.inl ⟨hno, hme, hfull, rfl, rfl, rfl, rfl⟩)))⟩
      · by_cases hst : st = 8
        · refine (frame_eight S s hno hme (by omega) (by simpa using hst)).mono ?_
          rintro e w' ⟨rfl, hb⟩
          exact ⟨_, _, _, _, _, _, rfl, left_same S s hb (.inr (.inr (.inr (.inl ⟨hno, hme, by omega, hst, rfl, rfl, rfl, rfl⟩))))⟩
        · refine (frame_added S s hno hme (by omega) (by simpa using hst)).mono ?_
          rintro e w' ⟨g, cap', rfl, A⟩
          exact ⟨_, _, g, n + 1, cap', _, rfl, A.r2, A.r14, A.frames, A.away, by omega, by have := S.small; omega, .inr (.inr (.inr (.inr ⟨hno, hme, by omega, hst, rfl, rfl, rfl, rfl⟩)))⟩
end Go.Proofs.Ybulkbmxm.lawS3184CStranger
