/-
  No cell of these rows narrows 'for every input' (looked for: loops, veiled, ifaces, maps, wideKeys, modest, calm, conditions, laid).
  DERIVED. THE GIVEN ROWS OF THIS SEAT. 1 by the template 'for every input the law returns true; each argument reads behind the call as it read before'; 0 by the template 'total and deterministic' (their statements: YbulkbtecTotals.lean).
  GIVEN WITH THE SEED: the statements are not yours to turn. If you find one false, say at which input.
  Laid BY PROGRAM, IN A SANDBOX (cutbox-rows.mjs): the forced cells as the released guide's own fill.sh prints them over the translation b518fdb9bda15ef4… (all of the seat's roots in one cut). By AI agents, Wed Nov 11 2026. No macro, syntax, notation, axiom, sorry.
-/
import Derived.Test.YbulkbtecChecked
import GoSem.Claim
import GoSem.ClaimJoined
import GoSem.ClaimMapViews
import Derived.JoinedTies
import Derived.KernelRfl
namespace Go.Proofs.Ybulkbtec
/- THE CELL 'sum', in the pinned program and in every row, IS THE sha256 OF THE DUMP (.gsa) THAT YbulkbtecProg.lean LOADS. Nothing in Lean hashes anything: it is a label: what it is worth is what the hold of that sum in a sandbox is worth. -/
noncomputable def Yba.pinned : Pinned := { name := "ybulkbtec", sum := "b518fdb9bda15ef4f1fe2800509884390058580896a79a65430b38e30bca4e8d", checked := Yba.checked }
namespace Rows
def none {H : Type} : Left H := { results := [], args := [] }

/-- 'tickwright.LawS3486BWalk': WHATEVER THE INPUT: true; the input reads as it did. -/
def lawS3486BWalkSpec : ChangeSpec := { name := "lawS3486BWalk", fn := fun _ => fun
  | [d1, d2, d3, d4, d5, d6] => { results := [.lit (.bool true)], args := [d1, d2, d3, d4, d5, d6] }
  | _ => none }
def lawS3486BWalkRow : OpenClaim := { program := "ybulkbtec", sum := "b518fdb9bda15ef4f1fe2800509884390058580896a79a65430b38e30bca4e8d", func := "example.com/tickwright/tickwright.LawS3486BWalk", spec := "lawS3486BWalk", unfollowed := true, recurses := true, apart := false }
def LawS3486BWalkSaid : Prop := lawS3486BWalkRow.holds Yba.pinned (OpenSpec.ofChange lawS3486BWalkSpec)

/-- ITS FALSE NEIGHBOUR: 'it returns false'. Refute it at one input. -/
def lawS3486BWalkWrong : ChangeSpec := { name := "lawS3486BWalk", fn := fun _ => fun
  | [d1, d2, d3, d4, d5, d6] => { results := [.lit (.bool false)], args := [d1, d2, d3, d4, d5, d6] }
  | _ => none }
def LawS3486BWalkWrongFalsely : Prop := lawS3486BWalkRow.holds Yba.pinned (OpenSpec.ofChange lawS3486BWalkWrong)

end Rows
end Go.Proofs.Ybulkbtec
