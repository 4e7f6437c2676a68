/-
  No cell of these rows narrows 'for every input' (looked for: loops, veiled, ifaces, maps, wideKeys, modest, calm, conditions, laid).
  DERIVED. THE GIVEN ROWS OF THIS SEAT. 2 by the template 'for every input the law returns true; each argument reads behind the call as it read before'; 0 by the template 'total and deterministic' (their statements: YbulkbtggTotals.lean).
  GIVEN WITH THE SEED: the statements are not yours to turn. If you find one false, say at which input.
  Laid BY PROGRAM, IN A SANDBOX (cutbox-rows.mjs): the forced cells as the released guide's own fill.sh prints them over the translation 01ff2afe9de43b47… (all of the seat's roots in one cut). By AI agents, Wed Nov 11 2026. No macro, syntax, notation, axiom, sorry.
-/
import Derived.Test.YbulkbtggChecked
import GoSem.Claim
import GoSem.ClaimJoined
import GoSem.ClaimMapViews
import Derived.JoinedTies
import Derived.KernelRfl
namespace Go.Proofs.Ybulkbtgg
/- THE CELL 'sum', in the pinned program and in every row, IS THE sha256 OF THE DUMP (.gsa) THAT YbulkbtggProg.lean LOADS. Nothing in Lean hashes anything: it is a label: what it is worth is what the hold of that sum in a sandbox is worth. -/
noncomputable def Yba.pinned : Pinned := { name := "ybulkbtgg", sum := "01ff2afe9de43b47ef3b365dd3bd0e6ef7b2cca31f146ef8488bd89661ba0ea5", checked := Yba.checked }
namespace Rows
def none {H : Type} : Left H := { results := [], args := [] }

/-- 'engine.LawS3490CInOrder': WHATEVER THE INPUT: true; the input reads as it did. -/
def lawS3490CInOrderSpec : ChangeSpec := { name := "lawS3490CInOrder", fn := fun _ => fun
  | [d1, d2] => { results := [.lit (.bool true)], args := [d1, d2] }
  | _ => none }
def lawS3490CInOrderRow : OpenClaim := { program := "ybulkbtgg", sum := "01ff2afe9de43b47ef3b365dd3bd0e6ef7b2cca31f146ef8488bd89661ba0ea5", func := "example.com/orderly-rows/orderly-rows/internal/engine.LawS3490CInOrder", spec := "lawS3490CInOrder", apart := false }
def LawS3490CInOrderSaid : Prop := lawS3490CInOrderRow.holds Yba.pinned (OpenSpec.ofChange lawS3490CInOrderSpec)

/-- ITS FALSE NEIGHBOUR: 'it returns false'. Refute it at one input. -/
def lawS3490CInOrderWrong : ChangeSpec := { name := "lawS3490CInOrder", fn := fun _ => fun
  | [d1, d2] => { results := [.lit (.bool false)], args := [d1, d2] }
  | _ => none }
def LawS3490CInOrderWrongFalsely : Prop := lawS3490CInOrderRow.holds Yba.pinned (OpenSpec.ofChange lawS3490CInOrderWrong)

/-- 'engine.LawS3490CInterleaved': WHATEVER THE INPUT: true; the input reads as it did. -/
def lawS3490CInterleavedSpec : ChangeSpec := { name := "lawS3490CInterleaved", fn := fun _ => fun
  | [d1, d2] => { results := [.lit (.bool true)], args := [d1, d2] }
  | _ => none }
def lawS3490CInterleavedRow : OpenClaim := { program := "ybulkbtgg", sum := "01ff2afe9de43b47ef3b365dd3bd0e6ef7b2cca31f146ef8488bd89661ba0ea5", func := "example.com/orderly-rows/orderly-rows/internal/engine.LawS3490CInterleaved", spec := "lawS3490CInterleaved", apart := false }
def LawS3490CInterleavedSaid : Prop := lawS3490CInterleavedRow.holds Yba.pinned (OpenSpec.ofChange lawS3490CInterleavedSpec)

/-- ITS FALSE NEIGHBOUR: 'it returns false'. Refute it at one input. -/
def lawS3490CInterleavedWrong : ChangeSpec := { name := "lawS3490CInterleaved", fn := fun _ => fun
  | [d1, d2] => { results := [.lit (.bool false)], args := [d1, d2] }
  | _ => none }
def LawS3490CInterleavedWrongFalsely : Prop := lawS3490CInterleavedRow.holds Yba.pinned (OpenSpec.ofChange lawS3490CInterleavedWrong)

end Rows
end Go.Proofs.Ybulkbtgg
