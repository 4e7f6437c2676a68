/- Shared notions of this seat's walks: a slice of runes as the walk meets it; closed facts of the program. -/
import Derived.Test.YbulkbtcmRows
import Derived.Test.YbulkbtcmPlain
import Derived.WalkKit
import Derived.WalkLawsBesides
import Derived.WalkSpells
import Derived.Deep.OwnRows
import Derived.Deep.LoopGhost
import Derived.Deep.QuietTactic
import Derived.BigQuiet
import Derived.OpenShut
namespace Go.Proofs.Ybulkbtcm
open Go.RowKit

theorem Yba.info3 : (Yba.prog.info? 3).map (fun i => (i.zero, i.size, i.bytes)) = some (some (.int .i64 0), 1, 8) := by kernel_rfl
theorem Yba.info21 : (Yba.prog.info? 21).map (fun i => (i.zero, i.size, i.bytes)) = some (some (.int .i32 0), 1, 4) := by kernel_rfl
theorem Yba.info9 : (Yba.prog.info? 9).map (fun i => (i.zero, i.size, i.bytes)) = some (some (.string ByteArray.empty), 1, 16) := by kernel_rfl

/-- The slice with address 'ao' and length n reads as the runes f 0, f 1, .. -/
def Runes (w : World) (ao : Option Addr) (n : Nat) (f : Nat → Int) : Prop :=
  ∃ b off, (0 < n → ao = some ⟨b, off, none⟩) ∧ ∀ j, j < n → w.cell? ⟨b, off + j, none⟩ = some (.int .i32 (f j))

theorem Runes.later {w w' : World} {ao : Option Addr} {n : Nat} {f : Nat → Int} (h : Runes w ao n f) (hb : Below w.heap.size w w') : Runes w' ao n f := by
  obtain ⟨b, off, h1, h2⟩ := h
  refine ⟨b, off, h1, fun j hj => ?_⟩
  have hc := h2 j hj
  rw [hb.cell (p := ⟨b, off + j, none⟩) (World.block_lt_of_cell? _ _ hc)]
  exact hc

theorem Runes.congr {w : World} {ao : Option Addr} {n : Nat} {f g : Nat → Int} (h : Runes w ao n f) (e : ∀ j, j < n → f j = g j) : Runes w ao n g := by
  obtain ⟨b, off, h1, h2⟩ := h
  exact ⟨b, off, h1, fun j hj => by rw [h2 j hj, e j hj]⟩

theorem past {w w' w'' : World} (h : Below w.heap.size w w') (k : Below w'.heap.size w' w'') : Below w.heap.size w w'' := h.trans (k.mono h.size)

/-- A number stored into an own row of numbers. -/
theorem rowIs_setInt {w : World} {b : Nat} {t : TypeId} {k : IntKind} {n : Nat} {f : Nat → Int} (h : w.rowIs b t n (fun j => .int k (f j))) (i : Nat) (v : Int) :
    (w.setCell ⟨b, i, none⟩ (.int k v)).rowIs b t n (fun j => .int k (if j = i then v else f j)) :=
  (h.set i _).congr (fun j _ => by
    by_cases e : j = i
    · simp [e]
    · simp [e])

theorem ret_int {k : IntKind} {a b : Int} (h : a = b) : Ending.returned (.int k a) = .returned (.int k b) := by rw [h]

end Go.Proofs.Ybulkbtcm
