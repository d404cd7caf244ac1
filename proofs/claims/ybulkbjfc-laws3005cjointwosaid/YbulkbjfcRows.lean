/-
  No cell of these rows narrows 'for every input' (looked for: loops, veiled, ifaces, maps, wideKeys, modest, calm, conditions, laid).
  DERIVED. THE GIVEN ROWS OF THIS SEAT. 6 by the template 'for every input the law returns true; each argument reads behind the call as it read before'; 0 by the template 'total and deterministic' (their statements: YbulkbjfcTotals.lean).
  GIVEN WITH THE SEED: the statements are not yours to turn. If you find one false, say at which input.
  Laid BY PROGRAM, IN A SANDBOX (cutbox-rows.mjs): the forced cells as the released guide's own fill.sh prints them over the translation bee9558a7b5a35a0… (all of the seat's roots in one cut). By AI agents, Wed Nov 11 2026. No macro, syntax, notation, axiom, sorry.
-/
import Derived.Test.YbulkbjfcChecked
import GoSem.Claim
import GoSem.ClaimJoined
import GoSem.ClaimMapViews
import Derived.JoinedTies
import Derived.KernelRfl
namespace Go.Proofs.Ybulkbjfc
/- THE CELL 'sum', in the pinned program and in every row, IS THE sha256 OF THE DUMP (.gsa) THAT YbulkbjfcProg.lean LOADS. Nothing in Lean hashes anything: it is a label: what it is worth is what the hold of that sum in a sandbox is worth. -/
noncomputable def Yba.pinned : Pinned := { name := "ybulkbjfc", sum := "bee9558a7b5a35a0c610f93e79dc60fadb261a41862f3bcb9825cfd7b722b2d0", checked := Yba.checked }
namespace Rows
def none {H : Type} : Left H := { results := [], args := [] }

/-- 'tcp.LawS3005AModel': WHATEVER THE INPUT: true; the input reads as it did. -/
def lawS3005AModelSpec : ChangeSpec := { name := "lawS3005AModel", fn := fun _ => fun
  | [d1, d2, d3, d4, d5, d6, d7, d8, d9] => { results := [.lit (.bool true)], args := [d1, d2, d3, d4, d5, d6, d7, d8, d9] }
  | _ => none }
def lawS3005AModelRow : OpenClaim := { program := "ybulkbjfc", sum := "bee9558a7b5a35a0c610f93e79dc60fadb261a41862f3bcb9825cfd7b722b2d0", func := "example.com/antecedent/antecedent/tcp.LawS3005AModel", spec := "lawS3005AModel", unfollowed := true, recurses := true, plainKeys := false, apart := false }
def LawS3005AModelSaid : Prop := lawS3005AModelRow.holds Yba.pinned (OpenSpec.ofChange lawS3005AModelSpec)

/-- ITS FALSE NEIGHBOUR: 'it returns false'. Refute it at one input. -/
def lawS3005AModelWrong : ChangeSpec := { name := "lawS3005AModel", fn := fun _ => fun
  | [d1, d2, d3, d4, d5, d6, d7, d8, d9] => { results := [.lit (.bool false)], args := [d1, d2, d3, d4, d5, d6, d7, d8, d9] }
  | _ => none }
def LawS3005AModelWrongFalsely : Prop := lawS3005AModelRow.holds Yba.pinned (OpenSpec.ofChange lawS3005AModelWrong)

/-- 'tcp.LawS3005AThreshold': WHATEVER THE INPUT: true; the input reads as it did. -/
def lawS3005AThresholdSpec : ChangeSpec := { name := "lawS3005AThreshold", fn := fun _ => fun
  | [d1, d2, d3, d4, d5] => { results := [.lit (.bool true)], args := [d1, d2, d3, d4, d5] }
  | _ => none }
def lawS3005AThresholdRow : OpenClaim := { program := "ybulkbjfc", sum := "bee9558a7b5a35a0c610f93e79dc60fadb261a41862f3bcb9825cfd7b722b2d0", func := "example.com/antecedent/antecedent/tcp.LawS3005AThreshold", spec := "lawS3005AThreshold", unfollowed := true, recurses := true, plainKeys := false, apart := false }
def LawS3005AThresholdSaid : Prop := lawS3005AThresholdRow.holds Yba.pinned (OpenSpec.ofChange lawS3005AThresholdSpec)

/-- ITS FALSE NEIGHBOUR: 'it returns false'. Refute it at one input. -/
def lawS3005AThresholdWrong : ChangeSpec := { name := "lawS3005AThreshold", fn := fun _ => fun
  | [d1, d2, d3, d4, d5] => { results := [.lit (.bool false)], args := [d1, d2, d3, d4, d5] }
  | _ => none }
def LawS3005AThresholdWrongFalsely : Prop := lawS3005AThresholdRow.holds Yba.pinned (OpenSpec.ofChange lawS3005AThresholdWrong)

/-- 'antecedent.LawS3005BModel': WHATEVER THE INPUT: true; the input reads as it did. -/
def lawS3005BModelSpec : ChangeSpec := { name := "lawS3005BModel", fn := fun _ => fun
  | [d1, d2, d3] => { results := [.lit (.bool true)], args := [d1, d2, d3] }
  | _ => none }
def lawS3005BModelRow : OpenClaim := { program := "ybulkbjfc", sum := "bee9558a7b5a35a0c610f93e79dc60fadb261a41862f3bcb9825cfd7b722b2d0", func := "example.com/antecedent/antecedent.LawS3005BModel", spec := "lawS3005BModel", plainKeys := false, apart := false }
def LawS3005BModelSaid : Prop := lawS3005BModelRow.holds Yba.pinned (OpenSpec.ofChange lawS3005BModelSpec)

/-- ITS FALSE NEIGHBOUR: 'it returns false'. Refute it at one input. -/
def lawS3005BModelWrong : ChangeSpec := { name := "lawS3005BModel", fn := fun _ => fun
  | [d1, d2, d3] => { results := [.lit (.bool false)], args := [d1, d2, d3] }
  | _ => none }
def LawS3005BModelWrongFalsely : Prop := lawS3005BModelRow.holds Yba.pinned (OpenSpec.ofChange lawS3005BModelWrong)

/-- 'antecedent.LawS3005BPrefix': WHATEVER THE INPUT: true; the input reads as it did. -/
def lawS3005BPrefixSpec : ChangeSpec := { name := "lawS3005BPrefix", fn := fun _ => fun
  | [d1, d2, d3] => { results := [.lit (.bool true)], args := [d1, d2, d3] }
  | _ => none }
def lawS3005BPrefixRow : OpenClaim := { program := "ybulkbjfc", sum := "bee9558a7b5a35a0c610f93e79dc60fadb261a41862f3bcb9825cfd7b722b2d0", func := "example.com/antecedent/antecedent.LawS3005BPrefix", spec := "lawS3005BPrefix", plainKeys := false, apart := false }
def LawS3005BPrefixSaid : Prop := lawS3005BPrefixRow.holds Yba.pinned (OpenSpec.ofChange lawS3005BPrefixSpec)

/-- ITS FALSE NEIGHBOUR: 'it returns false'. Refute it at one input. -/
def lawS3005BPrefixWrong : ChangeSpec := { name := "lawS3005BPrefix", fn := fun _ => fun
  | [d1, d2, d3] => { results := [.lit (.bool false)], args := [d1, d2, d3] }
  | _ => none }
def LawS3005BPrefixWrongFalsely : Prop := lawS3005BPrefixRow.holds Yba.pinned (OpenSpec.ofChange lawS3005BPrefixWrong)

/-- 'antecedent.LawS3005CJoinTwo': WHATEVER THE INPUT: true; the input reads as it did. -/
def lawS3005CJoinTwoSpec : ChangeSpec := { name := "lawS3005CJoinTwo", fn := fun _ => fun
  | [d1, d2, d3] => { results := [.lit (.bool true)], args := [d1, d2, d3] }
  | _ => none }
def lawS3005CJoinTwoRow : OpenClaim := { program := "ybulkbjfc", sum := "bee9558a7b5a35a0c610f93e79dc60fadb261a41862f3bcb9825cfd7b722b2d0", func := "example.com/antecedent/antecedent.LawS3005CJoinTwo", spec := "lawS3005CJoinTwo", unfollowed := true, recurses := true, plainKeys := false, apart := false }
def LawS3005CJoinTwoSaid : Prop := lawS3005CJoinTwoRow.holds Yba.pinned (OpenSpec.ofChange lawS3005CJoinTwoSpec)

/-- ITS FALSE NEIGHBOUR: 'it returns false'. Refute it at one input. -/
def lawS3005CJoinTwoWrong : ChangeSpec := { name := "lawS3005CJoinTwo", fn := fun _ => fun
  | [d1, d2, d3] => { results := [.lit (.bool false)], args := [d1, d2, d3] }
  | _ => none }
def LawS3005CJoinTwoWrongFalsely : Prop := lawS3005CJoinTwoRow.holds Yba.pinned (OpenSpec.ofChange lawS3005CJoinTwoWrong)

/-- 'antecedent.LawS3005CSteps': WHATEVER THE INPUT: true; the input reads as it did. -/
def lawS3005CStepsSpec : ChangeSpec := { name := "lawS3005CSteps", fn := fun _ => fun
  | [d1, d2, d3, d4] => { results := [.lit (.bool true)], args := [d1, d2, d3, d4] }
  | _ => none }
def lawS3005CStepsRow : OpenClaim := { program := "ybulkbjfc", sum := "bee9558a7b5a35a0c610f93e79dc60fadb261a41862f3bcb9825cfd7b722b2d0", func := "example.com/antecedent/antecedent.LawS3005CSteps", spec := "lawS3005CSteps", unfollowed := true, recurses := true, plainKeys := false, apart := false }
def LawS3005CStepsSaid : Prop := lawS3005CStepsRow.holds Yba.pinned (OpenSpec.ofChange lawS3005CStepsSpec)

/-- ITS FALSE NEIGHBOUR: 'it returns false'. Refute it at one input. -/
def lawS3005CStepsWrong : ChangeSpec := { name := "lawS3005CSteps", fn := fun _ => fun
  | [d1, d2, d3, d4] => { results := [.lit (.bool false)], args := [d1, d2, d3, d4] }
  | _ => none }
def LawS3005CStepsWrongFalsely : Prop := lawS3005CStepsRow.holds Yba.pinned (OpenSpec.ofChange lawS3005CStepsWrong)

end Rows
end Go.Proofs.Ybulkbjfc
