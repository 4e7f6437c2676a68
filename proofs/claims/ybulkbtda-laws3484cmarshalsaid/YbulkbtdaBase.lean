import Derived.Test.YbulkbtdaRows
import Derived.WalkKit
import Derived.WalkLawsBesides
import Derived.WalkSpells
import Derived.Deep.OwnRows
import Derived.Deep.LoopGhost
import Derived.Deep.QuietTactic
import Derived.Deep.DeepCutAuto
import Derived.BigQuiet
import Derived.OpenShut
namespace Go.Proofs.Ybulkbtda
open Go.RowKit

theorem Yba.info5 : (Yba.prog.info? 5).map (fun i => (i.zero, i.size, i.bytes)) = some (some (.int .u8 0), 1, 1) := by kernel_rfl

/-- A number stored into an own row of numbers. -/
theorem rowIs_setInt {w : World} {b : Nat} {t : TypeId} {k : IntKind} {n : Nat} {f : Nat → Int} (h : w.rowIs b t n (fun j => .int k (f j))) (i : Nat) (v : Int) :
    (w.setCell ⟨b, i, none⟩ (.int k v)).rowIs b t n (fun j => .int k (if j = i then v else f j)) :=
  (h.set i _).congr (fun j _ => by
    by_cases e : j = i
    · simp [e]
    · simp [e])

theorem rowIs_congrInt {w : World} {b : Nat} {t : TypeId} {k : IntKind} {n : Nat} {f g : Nat → Int} (h : w.rowIs b t n (fun j => .int k (f j))) (e : ∀ i, i < n → f i = g i) : w.rowIs b t n (fun j => .int k (g j)) :=
  h.congr (fun i hi => by rw [e i hi])

theorem ret_int {k : IntKind} {a b : Int} (h : a = b) : Ending.returned (.int k a) = .returned (.int k b) := by rw [h]
theorem past {w w' w'' : World} (h : Below w.heap.size w w') (k : Below w'.heap.size w' w'') : Below w.heap.size w w'' := h.trans (k.mono h.size)

/-- Nothing but block g has turned, and no block is new. -/
structure Only (g : Nat) (w w' : World) : Prop where
  os : w'.os = w.os
  tape : w'.tape = w.tape
  output : w'.output = w.output
  size : w'.heap.size = w.heap.size
  block : ∀ k, k ≠ g → w'.heap[k]? = w.heap[k]?
theorem Only.refl (g : Nat) (w : World) : Only g w w := ⟨rfl, rfl, rfl, rfl, fun _ _ => rfl⟩
theorem Only.setCell {g : Nat} {w w' : World} (h : Only g w w') (i : Nat) (v : Value) : Only g w (w'.setCell ⟨g, i, none⟩ v) :=
  ⟨h.os, h.tape, h.output, by simp [h.size], fun k hk => (heap_setCell_other w' ⟨g, i, none⟩ k v hk).trans (h.block k hk)⟩
theorem Only.below {g B : Nat} {w w' : World} (h : Only g w w') (hB : B ≤ g) : Below B w w' := ⟨h.os, h.tape, h.output, by rw [h.size]; exact Nat.le_refl _, fun k hk => h.block k (by omega)⟩
theorem Only.row {g b : Nat} {w w' : World} {t : TypeId} {n : Nat} {f : Nat → Value} (h : Only g w w') (hb : b ≠ g) (hr : w.rowIs b t n f) : w'.rowIs b t n f := hr.of_block (h.block b hb)

end Go.Proofs.Ybulkbtda
