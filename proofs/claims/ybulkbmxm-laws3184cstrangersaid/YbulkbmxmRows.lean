/-
  No cell of these rows narrows 'for every input' (looked for: loops, veiled, ifaces, maps, wideKeys, modest, calm, conditions, laid).
  DERIVED. THE GIVEN ROWS OF THIS SEAT. 5 by the template 'for every input the law returns true; each argument reads behind the call as it read before'; 0 by the template 'total and deterministic' (their statements: YbulkbmxmTotals.lean).
  GIVEN WITH THE SEED: the statements are not yours to turn. If you find one false, say at which input.
  Laid BY PROGRAM, IN A SANDBOX (cutbox-rows.mjs): the forced cells as the released guide's own fill.sh prints them over the translation 64a8e4d5b49423aa… (all of the seat's roots in one cut). By AI agents, Wed Nov 11 2026. No macro, syntax, notation, axiom, sorry.
-/
import Derived.Test.YbulkbmxmChecked
import GoSem.Claim
import GoSem.ClaimJoined
import GoSem.ClaimMapViews
import Derived.JoinedTies
import Derived.KernelRfl
namespace Go.Proofs.Ybulkbmxm
/- THE CELL 'sum', in the pinned program and in every row, IS THE sha256 OF THE DUMP (.gsa) THAT YbulkbmxmProg.lean LOADS. Nothing in Lean hashes anything: it is a label: what it is worth is what the hold of that sum in a sandbox is worth. -/
noncomputable def Yba.pinned : Pinned := { name := "ybulkbmxm", sum := "64a8e4d5b49423aaf7e9a53e4e1b61e8b74033060ada6276be57f44cb5162d16", checked := Yba.checked }
namespace Rows
def none {H : Type} : Left H := { results := [], args := [] }

/-- 'cycle.LawS3184ASkew': WHATEVER THE INPUT: true; the input reads as it did. -/
def lawS3184ASkewSpec : ChangeSpec := { name := "lawS3184ASkew", fn := fun _ => fun
  | [d1, d2, d3, d4, d5] => { results := [.lit (.bool true)], args := [d1, d2, d3, d4, d5] }
  | _ => none }
def lawS3184ASkewRow : OpenClaim := { program := "ybulkbmxm", sum := "64a8e4d5b49423aaf7e9a53e4e1b61e8b74033060ada6276be57f44cb5162d16", func := "example.com/rumorwire/rumorwire/internal/cycle.LawS3184ASkew", spec := "lawS3184ASkew", plainKeys := false, apart := false }
def LawS3184ASkewSaid : Prop := lawS3184ASkewRow.holds Yba.pinned (OpenSpec.ofChange lawS3184ASkewSpec)

/-- ITS FALSE NEIGHBOUR: 'it returns false'. Refute it at one input. -/
def lawS3184ASkewWrong : ChangeSpec := { name := "lawS3184ASkew", fn := fun _ => fun
  | [d1, d2, d3, d4, d5] => { results := [.lit (.bool false)], args := [d1, d2, d3, d4, d5] }
  | _ => none }
def LawS3184ASkewWrongFalsely : Prop := lawS3184ASkewRow.holds Yba.pinned (OpenSpec.ofChange lawS3184ASkewWrong)

/-- 'cycle.LawS3184AFold': WHATEVER THE INPUT: true; the input reads as it did. -/
def lawS3184AFoldSpec : ChangeSpec := { name := "lawS3184AFold", fn := fun _ => fun
  | [d1, d2, d3] => { results := [.lit (.bool true)], args := [d1, d2, d3] }
  | _ => none }
def lawS3184AFoldRow : OpenClaim := { program := "ybulkbmxm", sum := "64a8e4d5b49423aaf7e9a53e4e1b61e8b74033060ada6276be57f44cb5162d16", func := "example.com/rumorwire/rumorwire/internal/cycle.LawS3184AFold", spec := "lawS3184AFold", plainKeys := false, apart := false }
def LawS3184AFoldSaid : Prop := lawS3184AFoldRow.holds Yba.pinned (OpenSpec.ofChange lawS3184AFoldSpec)

/-- ITS FALSE NEIGHBOUR: 'it returns false'. Refute it at one input. -/
def lawS3184AFoldWrong : ChangeSpec := { name := "lawS3184AFold", fn := fun _ => fun
  | [d1, d2, d3] => { results := [.lit (.bool false)], args := [d1, d2, d3] }
  | _ => none }
def LawS3184AFoldWrongFalsely : Prop := lawS3184AFoldRow.holds Yba.pinned (OpenSpec.ofChange lawS3184AFoldWrong)

/-- 'wire.LawS3184BPut': WHATEVER THE INPUT: true; the input reads as it did. -/
def lawS3184BPutSpec : ChangeSpec := { name := "lawS3184BPut", fn := fun _ => fun
  | [d1, d2, d3, d4] => { results := [.lit (.bool true)], args := [d1, d2, d3, d4] }
  | _ => none }
def lawS3184BPutRow : OpenClaim := { program := "ybulkbmxm", sum := "64a8e4d5b49423aaf7e9a53e4e1b61e8b74033060ada6276be57f44cb5162d16", func := "example.com/rumorwire/rumorwire/internal/wire.LawS3184BPut", spec := "lawS3184BPut", named := ["encoding/binary.BigEndian"], plainKeys := false, apart := false }
def LawS3184BPutSaid : Prop := lawS3184BPutRow.holds Yba.pinned (OpenSpec.ofChange lawS3184BPutSpec)

/-- ITS FALSE NEIGHBOUR: 'it returns false'. Refute it at one input. -/
def lawS3184BPutWrong : ChangeSpec := { name := "lawS3184BPut", fn := fun _ => fun
  | [d1, d2, d3, d4] => { results := [.lit (.bool false)], args := [d1, d2, d3, d4] }
  | _ => none }
def LawS3184BPutWrongFalsely : Prop := lawS3184BPutRow.holds Yba.pinned (OpenSpec.ofChange lawS3184BPutWrong)

/-- 'rumorwire.LawS3184CStranger': WHATEVER THE INPUT: true; the input reads as it did. -/
def lawS3184CStrangerSpec : ChangeSpec := { name := "lawS3184CStranger", fn := fun _ => fun
  | [d1, d2, d3, d4, d5] => { results := [.lit (.bool true)], args := [d1, d2, d3, d4, d5] }
  | _ => none }
def lawS3184CStrangerRow : OpenClaim := { program := "ybulkbmxm", sum := "64a8e4d5b49423aaf7e9a53e4e1b61e8b74033060ada6276be57f44cb5162d16", func := "example.com/rumorwire/rumorwire.LawS3184CStranger", spec := "lawS3184CStranger", plainKeys := false, apart := false }
def LawS3184CStrangerSaid : Prop := lawS3184CStrangerRow.holds Yba.pinned (OpenSpec.ofChange lawS3184CStrangerSpec)

/-- ITS FALSE NEIGHBOUR: 'it returns false'. Refute it at one input. -/
def lawS3184CStrangerWrong : ChangeSpec := { name := "lawS3184CStranger", fn := fun _ => fun
  | [d1, d2, d3, d4, d5] => { results := [.lit (.bool false)], args := [d1, d2, d3, d4, d5] }
  | _ => none }
def LawS3184CStrangerWrongFalsely : Prop := lawS3184CStrangerRow.holds Yba.pinned (OpenSpec.ofChange lawS3184CStrangerWrong)

/-- 'rumorwire.LawS3184CPeers': WHATEVER THE INPUT: true; the input reads as it did. -/
def lawS3184CPeersSpec : ChangeSpec := { name := "lawS3184CPeers", fn := fun _ => fun
  | [d1, d2, d3, d4, d5, d6, d7] => { results := [.lit (.bool true)], args := [d1, d2, d3, d4, d5, d6, d7] }
  | _ => none }
def lawS3184CPeersRow : OpenClaim := { program := "ybulkbmxm", sum := "64a8e4d5b49423aaf7e9a53e4e1b61e8b74033060ada6276be57f44cb5162d16", func := "example.com/rumorwire/rumorwire.LawS3184CPeers", spec := "lawS3184CPeers", plainKeys := false, apart := false }
def LawS3184CPeersSaid : Prop := lawS3184CPeersRow.holds Yba.pinned (OpenSpec.ofChange lawS3184CPeersSpec)

/-- ITS FALSE NEIGHBOUR: 'it returns false'. Refute it at one input. -/
def lawS3184CPeersWrong : ChangeSpec := { name := "lawS3184CPeers", fn := fun _ => fun
  | [d1, d2, d3, d4, d5, d6, d7] => { results := [.lit (.bool false)], args := [d1, d2, d3, d4, d5, d6, d7] }
  | _ => none }
def LawS3184CPeersWrongFalsely : Prop := lawS3184CPeersRow.holds Yba.pinned (OpenSpec.ofChange lawS3184CPeersWrong)

end Rows
end Go.Proofs.Ybulkbmxm
