/-
  No cell of these rows narrows 'for every input' (looked for: loops, veiled, ifaces, maps, wideKeys, modest, calm, conditions, laid).
  DERIVED. THE GIVEN ROWS OF THIS SEAT. 3 by the template 'for every input the law returns true; each argument reads behind the call as it read before'; 0 by the template 'total and deterministic' (their statements: YbulkbtdaTotals.lean).
  GIVEN WITH THE SEED: the statements are not yours to turn. If you find one false, say at which input.
  Laid BY PROGRAM, IN A SANDBOX (cutbox-rows.mjs): the forced cells as the released guide's own fill.sh prints them over the translation 1de960d5d8517755… (all of the seat's roots in one cut). By AI agents, Wed Nov 11 2026. No macro, syntax, notation, axiom, sorry.
-/
import Derived.Test.YbulkbtdaChecked
import GoSem.Claim
import GoSem.ClaimJoined
import GoSem.ClaimMapViews
import Derived.JoinedTies
import Derived.KernelRfl
namespace Go.Proofs.Ybulkbtda
/- THE CELL 'sum', in the pinned program and in every row, IS THE sha256 OF THE DUMP (.gsa) THAT YbulkbtdaProg.lean LOADS. Nothing in Lean hashes anything: it is a label: what it is worth is what the hold of that sum in a sandbox is worth. -/
noncomputable def Yba.pinned : Pinned := { name := "ybulkbtda", sum := "1de960d5d851775540b978f1cfdda6577901e210849d1cd65f41b06663646eef", checked := Yba.checked }
namespace Rows
def none {H : Type} : Left H := { results := [], args := [] }

/-- 'longspan.LawS3484AFraction': WHATEVER THE INPUT: true; the input reads as it did. -/
def lawS3484AFractionSpec : ChangeSpec := { name := "lawS3484AFraction", fn := fun _ => fun
  | [d1, d2] => { results := [.lit (.bool true)], args := [d1, d2] }
  | _ => none }
def lawS3484AFractionRow : OpenClaim := { program := "ybulkbtda", sum := "1de960d5d851775540b978f1cfdda6577901e210849d1cd65f41b06663646eef", func := "example.com/longspan/longspan.LawS3484AFraction", spec := "lawS3484AFraction", apart := false }
def LawS3484AFractionSaid : Prop := lawS3484AFractionRow.holds Yba.pinned (OpenSpec.ofChange lawS3484AFractionSpec)

/-- ITS FALSE NEIGHBOUR: 'it returns false'. Refute it at one input. -/
def lawS3484AFractionWrong : ChangeSpec := { name := "lawS3484AFraction", fn := fun _ => fun
  | [d1, d2] => { results := [.lit (.bool false)], args := [d1, d2] }
  | _ => none }
def LawS3484AFractionWrongFalsely : Prop := lawS3484AFractionRow.holds Yba.pinned (OpenSpec.ofChange lawS3484AFractionWrong)

/-- 'longspan.LawS3484CLayout': WHATEVER THE INPUT: true; the input reads as it did. -/
def lawS3484CLayoutSpec : ChangeSpec := { name := "lawS3484CLayout", fn := fun _ => fun
  | [d1, d2, d3, d4, d5, d6, d7, d8, d9] => { results := [.lit (.bool true)], args := [d1, d2, d3, d4, d5, d6, d7, d8, d9] }
  | _ => none }
def lawS3484CLayoutRow : OpenClaim := { program := "ybulkbtda", sum := "1de960d5d851775540b978f1cfdda6577901e210849d1cd65f41b06663646eef", func := "example.com/longspan/longspan.LawS3484CLayout", spec := "lawS3484CLayout", apart := false }
def LawS3484CLayoutSaid : Prop := lawS3484CLayoutRow.holds Yba.pinned (OpenSpec.ofChange lawS3484CLayoutSpec)

/-- ITS FALSE NEIGHBOUR: 'it returns false'. Refute it at one input. -/
def lawS3484CLayoutWrong : ChangeSpec := { name := "lawS3484CLayout", fn := fun _ => fun
  | [d1, d2, d3, d4, d5, d6, d7, d8, d9] => { results := [.lit (.bool false)], args := [d1, d2, d3, d4, d5, d6, d7, d8, d9] }
  | _ => none }
def LawS3484CLayoutWrongFalsely : Prop := lawS3484CLayoutRow.holds Yba.pinned (OpenSpec.ofChange lawS3484CLayoutWrong)

/-- 'longspan.LawS3484CMarshal': WHATEVER THE INPUT: true; the input reads as it did. -/
def lawS3484CMarshalSpec : ChangeSpec := { name := "lawS3484CMarshal", fn := fun _ => fun
  | [d1, d2, d3, d4, d5, d6, d7, d8, d9] => { results := [.lit (.bool true)], args := [d1, d2, d3, d4, d5, d6, d7, d8, d9] }
  | _ => none }
def lawS3484CMarshalRow : OpenClaim := { program := "ybulkbtda", sum := "1de960d5d851775540b978f1cfdda6577901e210849d1cd65f41b06663646eef", func := "example.com/longspan/longspan.LawS3484CMarshal", spec := "lawS3484CMarshal", apart := false }
def LawS3484CMarshalSaid : Prop := lawS3484CMarshalRow.holds Yba.pinned (OpenSpec.ofChange lawS3484CMarshalSpec)

/-- ITS FALSE NEIGHBOUR: 'it returns false'. Refute it at one input. -/
def lawS3484CMarshalWrong : ChangeSpec := { name := "lawS3484CMarshal", fn := fun _ => fun
  | [d1, d2, d3, d4, d5, d6, d7, d8, d9] => { results := [.lit (.bool false)], args := [d1, d2, d3, d4, d5, d6, d7, d8, d9] }
  | _ => none }
def LawS3484CMarshalWrongFalsely : Prop := lawS3484CMarshalRow.holds Yba.pinned (OpenSpec.ofChange lawS3484CMarshalWrong)

end Rows
end Go.Proofs.Ybulkbtda
