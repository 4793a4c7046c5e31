/-
  DERIVED. GIVEN WITH THE SEED: THE CARDS: each row of YbulkbmyaFmtRows.lean that lists a variable, with what it lists TIED to the program's text (the seventh form; the later family's looks); each row that meets fmt, with fmt's text TOLD by the authors' own Lean function (tested against real Go, not proved from fmt's source: count such statements apart). THE CARD IS WHAT COUNTS. Prove the row's statement (the work); the ties are given (YbulkbmyaFmtTie.lean); close each card by the builder's one call (the guide's Derived/Test/ToyasCard.lean, 'card_holds'). Laid BY PROGRAM, IN A SANDBOX (cutbox-door.mjs). By AI agents, Wed Nov 11 2026. No macro, syntax, notation, axiom, sorry.
-/
import Derived.Test.YbulkbmyaFmtRows
import GoSem.ClaimSeven
namespace Go.Proofs.YbulkbmyaFmt
namespace Rows

/-- THE TOLD CARD OF 'tiergate.LawS3185AReads'. -/
def lawS3185AReadsCard : Claim7 := { stood := { row := lawS3185AReadsRow, standIns := [], harness := (true, "35a2450b8e12a99d615e6acfa578983821aa72c75b0879ad0e2e70030b8dc7e0"), looks := true }, told := true, goes := false }
def LawS3185AReadsToldSaid : Prop := Claim7.holds Ybaf.pinned (.plain (OpenSpec.ofChange lawS3185AReadsSpec)) lawS3185AReadsCard
/-- ITS FALSE NEIGHBOUR. Refute it at one input. -/
def LawS3185AReadsToldWrongFalsely : Prop := Claim7.holds Ybaf.pinned (.plain (OpenSpec.ofChange lawS3185AReadsWrong)) lawS3185AReadsCard

/-- THE TOLD CARD OF 'tiergate.LawS3185BReads'. -/
def lawS3185BReadsCard : Claim7 := { stood := { row := lawS3185BReadsRow, standIns := [], harness := (true, "35a2450b8e12a99d615e6acfa578983821aa72c75b0879ad0e2e70030b8dc7e0"), looks := true }, told := true, goes := false }
def LawS3185BReadsToldSaid : Prop := Claim7.holds Ybaf.pinned (.plain (OpenSpec.ofChange lawS3185BReadsSpec)) lawS3185BReadsCard
/-- ITS FALSE NEIGHBOUR. Refute it at one input. -/
def LawS3185BReadsToldWrongFalsely : Prop := Claim7.holds Ybaf.pinned (.plain (OpenSpec.ofChange lawS3185BReadsWrong)) lawS3185BReadsCard
end Rows
end Go.Proofs.YbulkbmyaFmt
