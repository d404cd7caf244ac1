/-
  No cell of these rows narrows 'for every input' (looked for: loops, veiled, ifaces, maps, wideKeys, modest, calm, conditions, laid).
  DERIVED. THE GIVEN ROWS OF THIS SEAT. 2 by the template 'for every input the law returns true; each argument reads behind the call as it read before'; 0 by the template 'total and deterministic' (their statements: YbulkbjlaTotals.lean).
  GIVEN WITH THE SEED: the statements are not yours to turn. If you find one false, say at which input.
  Laid BY PROGRAM, IN A SANDBOX (cutbox-rows.mjs): the forced cells as the released guide's own fill.sh prints them over the translation 3a82462cc6cfe261… (all of the seat's roots in one cut). By AI agents, Wed Nov 11 2026. No macro, syntax, notation, axiom, sorry.
-/
import Derived.Test.YbulkbjlaChecked
import GoSem.Claim
import GoSem.ClaimJoined
import GoSem.ClaimMapViews
import Derived.JoinedTies
import Derived.KernelRfl
namespace Go.Proofs.Ybulkbjla
/- THE CELL 'sum', in the pinned program and in every row, IS THE sha256 OF THE DUMP (.gsa) THAT YbulkbjlaProg.lean LOADS. Nothing in Lean hashes anything: it is a label: what it is worth is what the hold of that sum in a sandbox is worth. -/
noncomputable def Yba.pinned : Pinned := { name := "ybulkbjla", sum := "3a82462cc6cfe26161ddf11dd555424ed6c26adc9c7f5a974213f6fada66728d", checked := Yba.checked }
namespace Rows
def none {H : Type} : Left H := { results := [], args := [] }

/-- 'hallmark.LawS3016BModel': WHATEVER THE INPUT: true; the input reads as it did. -/
def lawS3016BModelSpec : ChangeSpec := { name := "lawS3016BModel", fn := fun _ => fun
  | [d1, d2, d3] => { results := [.lit (.bool true)], args := [d1, d2, d3] }
  | _ => none }
def lawS3016BModelRow : OpenClaim := { program := "ybulkbjla", sum := "3a82462cc6cfe26161ddf11dd555424ed6c26adc9c7f5a974213f6fada66728d", func := "example.com/hallmark/hallmark.LawS3016BModel", spec := "lawS3016BModel", apart := false }
def LawS3016BModelSaid : Prop := lawS3016BModelRow.holds Yba.pinned (OpenSpec.ofChange lawS3016BModelSpec)

/-- ITS FALSE NEIGHBOUR: 'it returns false'. Refute it at one input. -/
def lawS3016BModelWrong : ChangeSpec := { name := "lawS3016BModel", fn := fun _ => fun
  | [d1, d2, d3] => { results := [.lit (.bool false)], args := [d1, d2, d3] }
  | _ => none }
def LawS3016BModelWrongFalsely : Prop := lawS3016BModelRow.holds Yba.pinned (OpenSpec.ofChange lawS3016BModelWrong)

/-- 'hallmark.LawS3016BFold': WHATEVER THE INPUT: true; the input reads as it did. -/
def lawS3016BFoldSpec : ChangeSpec := { name := "lawS3016BFold", fn := fun _ => fun
  | [d] => { results := [.lit (.bool true)], args := [d] }
  | _ => none }
def lawS3016BFoldRow : OpenClaim := { program := "ybulkbjla", sum := "3a82462cc6cfe26161ddf11dd555424ed6c26adc9c7f5a974213f6fada66728d", func := "example.com/hallmark/hallmark.LawS3016BFold", spec := "lawS3016BFold", apart := false }
def LawS3016BFoldSaid : Prop := lawS3016BFoldRow.holds Yba.pinned (OpenSpec.ofChange lawS3016BFoldSpec)

/-- ITS FALSE NEIGHBOUR: 'it returns false'. Refute it at one input. -/
def lawS3016BFoldWrong : ChangeSpec := { name := "lawS3016BFold", fn := fun _ => fun
  | [d] => { results := [.lit (.bool false)], args := [d] }
  | _ => none }
def LawS3016BFoldWrongFalsely : Prop := lawS3016BFoldRow.holds Yba.pinned (OpenSpec.ofChange lawS3016BFoldWrong)

end Rows
end Go.Proofs.Ybulkbjla
