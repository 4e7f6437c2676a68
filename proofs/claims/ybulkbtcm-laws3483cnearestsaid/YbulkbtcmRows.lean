/-
  No cell of these rows narrows 'for every input' (looked for: loops, veiled, ifaces, maps, wideKeys, modest, calm, conditions, laid).
  DERIVED. THE GIVEN ROWS OF THIS SEAT. 2 by the template 'for every input the law returns true; each argument reads behind the call as it read before'; 0 by the template 'total and deterministic' (their statements: YbulkbtcmTotals.lean).
  GIVEN WITH THE SEED: the statements are not yours to turn. If you find one false, say at which input.
  Laid BY PROGRAM, IN A SANDBOX (cutbox-rows.mjs): the forced cells as the released guide's own fill.sh prints them over the translation b69d840af1cabb41… (all of the seat's roots in one cut). By AI agents, Wed Nov 11 2026. No macro, syntax, notation, axiom, sorry.
-/
import Derived.Test.YbulkbtcmChecked
import GoSem.Claim
import GoSem.ClaimJoined
import GoSem.ClaimMapViews
import Derived.JoinedTies
import Derived.KernelRfl
namespace Go.Proofs.Ybulkbtcm
/- THE CELL 'sum', in the pinned program and in every row, IS THE sha256 OF THE DUMP (.gsa) THAT YbulkbtcmProg.lean LOADS. Nothing in Lean hashes anything: it is a label: what it is worth is what the hold of that sum in a sandbox is worth. -/
noncomputable def Yba.pinned : Pinned := { name := "ybulkbtcm", sum := "b69d840af1cabb4157e929414fd77fc26dd33b2fbb2018a1c2d40fd3ab41fae0", checked := Yba.checked }
namespace Rows
def none {H : Type} : Left H := { results := [], args := [] }

/-- 'diag.LawS3483CModel': WHATEVER THE INPUT: true; the input reads as it did. -/
def lawS3483CModelSpec : ChangeSpec := { name := "lawS3483CModel", fn := fun _ => fun
  | [d1, d2, d3, d4] => { results := [.lit (.bool true)], args := [d1, d2, d3, d4] }
  | _ => none }
def lawS3483CModelRow : OpenClaim := { program := "ybulkbtcm", sum := "b69d840af1cabb4157e929414fd77fc26dd33b2fbb2018a1c2d40fd3ab41fae0", func := "example.com/rowfield/rowfield/internal/diag.LawS3483CModel", spec := "lawS3483CModel", apart := false }
def LawS3483CModelSaid : Prop := lawS3483CModelRow.holds Yba.pinned (OpenSpec.ofChange lawS3483CModelSpec)

/-- ITS FALSE NEIGHBOUR: 'it returns false'. Refute it at one input. -/
def lawS3483CModelWrong : ChangeSpec := { name := "lawS3483CModel", fn := fun _ => fun
  | [d1, d2, d3, d4] => { results := [.lit (.bool false)], args := [d1, d2, d3, d4] }
  | _ => none }
def LawS3483CModelWrongFalsely : Prop := lawS3483CModelRow.holds Yba.pinned (OpenSpec.ofChange lawS3483CModelWrong)

/-- 'diag.LawS3483CNearest': WHATEVER THE INPUT: true; the input reads as it did. -/
def lawS3483CNearestSpec : ChangeSpec := { name := "lawS3483CNearest", fn := fun _ => fun
  | [d1, d2] => { results := [.lit (.bool true)], args := [d1, d2] }
  | _ => none }
def lawS3483CNearestRow : OpenClaim := { program := "ybulkbtcm", sum := "b69d840af1cabb4157e929414fd77fc26dd33b2fbb2018a1c2d40fd3ab41fae0", func := "example.com/rowfield/rowfield/internal/diag.LawS3483CNearest", spec := "lawS3483CNearest", apart := false }
def LawS3483CNearestSaid : Prop := lawS3483CNearestRow.holds Yba.pinned (OpenSpec.ofChange lawS3483CNearestSpec)

/-- ITS FALSE NEIGHBOUR: 'it returns false'. Refute it at one input. -/
def lawS3483CNearestWrong : ChangeSpec := { name := "lawS3483CNearest", fn := fun _ => fun
  | [d1, d2] => { results := [.lit (.bool false)], args := [d1, d2] }
  | _ => none }
def LawS3483CNearestWrongFalsely : Prop := lawS3483CNearestRow.holds Yba.pinned (OpenSpec.ofChange lawS3483CNearestWrong)

end Rows
end Go.Proofs.Ybulkbtcm
