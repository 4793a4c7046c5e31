/-
  No cell of these rows narrows 'for every input' (looked for: loops, veiled, ifaces, maps, wideKeys, modest, calm, conditions, laid).
  DERIVED. THE GIVEN ROWS OF THIS SEAT. 2 by the template 'for every input the law returns true; each argument reads behind the call as it read before'; 0 by the template 'total and deterministic' (their statements: YbulkbmyaFmtTotals.lean).
  GIVEN WITH THE SEED: the statements are not yours to turn. If you find one false, say at which input.
  Laid BY PROGRAM, IN A SANDBOX (cutbox-rows.mjs): the forced cells as the released guide's own fill.sh prints them over the translation c22eb76c83b45a0e… (all of the seat's roots in one cut). By AI agents, Wed Nov 11 2026. No macro, syntax, notation, axiom, sorry.
-/
import Derived.Test.YbulkbmyaFmtChecked
import GoSem.Claim
import GoSem.ClaimJoined
import GoSem.ClaimMapViews
import Derived.JoinedTies
import Derived.KernelRfl
namespace Go.Proofs.YbulkbmyaFmt
/- THE CELL 'sum', in the pinned program and in every row, IS THE sha256 OF THE DUMP (.gsa) THAT YbulkbmyaFmtProg.lean LOADS. Nothing in Lean hashes anything: it is a label: what it is worth is what the hold of that sum in a sandbox is worth. -/
noncomputable def Ybaf.pinned : Pinned := { name := "ybulkbmyafmt", sum := "c22eb76c83b45a0ed68cf2f64622ef050ef5138d8d25c5d4878b2a782e9ffc7c", checked := Ybaf.checked }
namespace Rows
def none {H : Type} : Left H := { results := [], args := [] }

/-- 'tiergate.LawS3185AReads': WHATEVER THE INPUT: true; the input reads as it did. -/
def lawS3185AReadsSpec : ChangeSpec := { name := "lawS3185AReads", fn := fun _ => fun
  | [d1, d2, d3, d4, d5] => { results := [.lit (.bool true)], args := [d1, d2, d3, d4, d5] }
  | _ => none }
def lawS3185AReadsRow : OpenClaim := { program := "ybulkbmyafmt", sum := "c22eb76c83b45a0ed68cf2f64622ef050ef5138d8d25c5d4878b2a782e9ffc7c", func := "example.com/tiergate/tiergate.LawS3185AReads", spec := "lawS3185AReads", stops := ["fmt.Sprintf"], inPlace := ["fmt.Sprintf"], apart := false }
/-- NO THEOREM (fmt's text is open here; it may be false): for the released tool's asking of the row's closed facts alone. THE STATEMENT IS 'LawS3185AReadsToldSaid' (YbulkbmyaFmtCards.lean). -/
def LawS3185AReadsFormAsk : Prop := lawS3185AReadsRow.holds Ybaf.pinned (OpenSpec.ofChange lawS3185AReadsSpec)

/-- ITS FALSE NEIGHBOUR: 'it returns false'. Refute it at one input. -/
def lawS3185AReadsWrong : ChangeSpec := { name := "lawS3185AReads", fn := fun _ => fun
  | [d1, d2, d3, d4, d5] => { results := [.lit (.bool false)], args := [d1, d2, d3, d4, d5] }
  | _ => none }
def LawS3185AReadsWrongFormAsk : Prop := lawS3185AReadsRow.holds Ybaf.pinned (OpenSpec.ofChange lawS3185AReadsWrong)

/-- 'tiergate.LawS3185BReads': WHATEVER THE INPUT: true; the input reads as it did. -/
def lawS3185BReadsSpec : ChangeSpec := { name := "lawS3185BReads", fn := fun _ => fun
  | [d1, d2, d3, d4, d5] => { results := [.lit (.bool true)], args := [d1, d2, d3, d4, d5] }
  | _ => none }
def lawS3185BReadsRow : OpenClaim := { program := "ybulkbmyafmt", sum := "c22eb76c83b45a0ed68cf2f64622ef050ef5138d8d25c5d4878b2a782e9ffc7c", func := "example.com/tiergate/tiergate.LawS3185BReads", spec := "lawS3185BReads", stops := ["fmt.Sprintf"], inPlace := ["fmt.Sprintf"], unfollowed := true, recurses := true, apart := false }
/-- NO THEOREM (fmt's text is open here; it may be false): for the released tool's asking of the row's closed facts alone. THE STATEMENT IS 'LawS3185BReadsToldSaid' (YbulkbmyaFmtCards.lean). -/
def LawS3185BReadsFormAsk : Prop := lawS3185BReadsRow.holds Ybaf.pinned (OpenSpec.ofChange lawS3185BReadsSpec)

/-- ITS FALSE NEIGHBOUR: 'it returns false'. Refute it at one input. -/
def lawS3185BReadsWrong : ChangeSpec := { name := "lawS3185BReads", fn := fun _ => fun
  | [d1, d2, d3, d4, d5] => { results := [.lit (.bool false)], args := [d1, d2, d3, d4, d5] }
  | _ => none }
def LawS3185BReadsWrongFormAsk : Prop := lawS3185BReadsRow.holds Ybaf.pinned (OpenSpec.ofChange lawS3185BReadsWrong)

end Rows
end Go.Proofs.YbulkbmyaFmt
