/-
  No cell of these rows narrows 'for every input' (looked for: loops, veiled, ifaces, maps, wideKeys, modest, calm, conditions, laid).
  DERIVED. THE GIVEN ROWS OF THIS SEAT. 2 by the template 'for every input the law returns true; each argument reads behind the call as it read before'; 0 by the template 'total and deterministic' (their statements: YbulkbmyaTotals.lean).
  GIVEN WITH THE SEED: the statements are not yours to turn. If you find one false, say at which input.
  Laid BY PROGRAM, IN A SANDBOX (cutbox-rows.mjs): the forced cells as the released guide's own fill.sh prints them over the translation 885ae9ce77bf2b7e… (all of the seat's roots in one cut). By AI agents, Wed Nov 11 2026. No macro, syntax, notation, axiom, sorry.
-/
import Derived.Test.YbulkbmyaChecked
import GoSem.Claim
import GoSem.ClaimJoined
import GoSem.ClaimMapViews
import Derived.JoinedTies
import Derived.KernelRfl
namespace Go.Proofs.Ybulkbmya
/- THE CELL 'sum', in the pinned program and in every row, IS THE sha256 OF THE DUMP (.gsa) THAT YbulkbmyaProg.lean LOADS. Nothing in Lean hashes anything: it is a label: what it is worth is what the hold of that sum in a sandbox is worth. -/
noncomputable def Yba.pinned : Pinned := { name := "ybulkbmya", sum := "885ae9ce77bf2b7e6a535e951b5dab3ceb090d8a16d1bb510fd84a44b0651ab8", checked := Yba.checked }
namespace Rows
def none {H : Type} : Left H := { results := [], args := [] }

/-- 'tiergate.LawS3185CStanding': WHATEVER THE INPUT: true; the input reads as it did. -/
def lawS3185CStandingSpec : ChangeSpec := { name := "lawS3185CStanding", fn := fun _ => fun
  | [d1, d2, d3] => { results := [.lit (.bool true)], args := [d1, d2, d3] }
  | _ => none }
def lawS3185CStandingRow : OpenClaim := { program := "ybulkbmya", sum := "885ae9ce77bf2b7e6a535e951b5dab3ceb090d8a16d1bb510fd84a44b0651ab8", func := "example.com/tiergate/tiergate.LawS3185CStanding", spec := "lawS3185CStanding", unfollowed := true, recurses := true, apart := false }
def LawS3185CStandingSaid : Prop := lawS3185CStandingRow.holds Yba.pinned (OpenSpec.ofChange lawS3185CStandingSpec)

/-- ITS FALSE NEIGHBOUR: 'it returns false'. Refute it at one input. -/
def lawS3185CStandingWrong : ChangeSpec := { name := "lawS3185CStanding", fn := fun _ => fun
  | [d1, d2, d3] => { results := [.lit (.bool false)], args := [d1, d2, d3] }
  | _ => none }
def LawS3185CStandingWrongFalsely : Prop := lawS3185CStandingRow.holds Yba.pinned (OpenSpec.ofChange lawS3185CStandingWrong)

/-- 'tiergate.LawS3185COrgs': WHATEVER THE INPUT: true; the input reads as it did. -/
def lawS3185COrgsSpec : ChangeSpec := { name := "lawS3185COrgs", fn := fun _ => fun
  | [d1, d2, d3] => { results := [.lit (.bool true)], args := [d1, d2, d3] }
  | _ => none }
def lawS3185COrgsRow : OpenClaim := { program := "ybulkbmya", sum := "885ae9ce77bf2b7e6a535e951b5dab3ceb090d8a16d1bb510fd84a44b0651ab8", func := "example.com/tiergate/tiergate.LawS3185COrgs", spec := "lawS3185COrgs", unfollowed := true, recurses := true, apart := false }
def LawS3185COrgsSaid : Prop := lawS3185COrgsRow.holds Yba.pinned (OpenSpec.ofChange lawS3185COrgsSpec)

/-- ITS FALSE NEIGHBOUR: 'it returns false'. Refute it at one input. -/
def lawS3185COrgsWrong : ChangeSpec := { name := "lawS3185COrgs", fn := fun _ => fun
  | [d1, d2, d3] => { results := [.lit (.bool false)], args := [d1, d2, d3] }
  | _ => none }
def LawS3185COrgsWrongFalsely : Prop := lawS3185COrgsRow.holds Yba.pinned (OpenSpec.ofChange lawS3185COrgsWrong)

end Rows
end Go.Proofs.Ybulkbmya
