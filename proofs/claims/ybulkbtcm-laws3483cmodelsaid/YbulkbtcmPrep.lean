import Derived.Test.YbulkbtcmBase
namespace Go.Proofs.Ybulkbtcm
open Go.RowKit

/-- What 'prep' leaves: a slice as long, of runes g, in new memory; where 'small' is false the runes are the same. -/
def PrepPost (n : Nat) (sm : Bool) (f : Nat → Int) (w : World) (e : Ending) (w' : World) : Prop :=
  ∃ ao' cap' g, e = .returned (.slice ao' n cap') ∧ (ao' = none → n = 0) ∧ Runes w' ao' n g ∧ (sm = false → ∀ j, j < n → g j = f j) ∧ Below w.heap.size w w'

def PrepRel (n : Nat) (sm : Bool) (f : Nat → Int) (w : World) (k : Nat) (wr : World) : Prop :=
  Below w.heap.size w wr ∧ ∃ g : Nat → Int, wr.rowIs w.heap.size 21 n (fun j => .int .i32 (g j)) ∧ (sm = false → ∀ j, j < k → g j = f j)

theorem PrepRel.start (n : Nat) (sm : Bool) (f : Nat → Int) (w : World) : PrepRel n sm f w 0 (w.alloc (.cells (madeCells #[.int .i32 0] n) 21)) :=
  ⟨(Below.refl _ _).alloc (Nat.le_refl _) _, fun _ => 0, World.rowIs_made w _ n 21, fun _ j hj => by omega⟩

theorem PrepRel.next {n : Nat} {sm : Bool} {f : Nat → Int} {w wr : World} {k : Nat} (h : PrepRel n sm f w k wr) (v : Int) (hv : sm = false → v = f k) :
    PrepRel n sm f w (k + 1) (wr.setCell ⟨w.heap.size, k, none⟩ (.int .i32 v)) := by
  obtain ⟨h1, g, h2, h3⟩ := h
  refine ⟨h1.setCell (Nat.le_refl _) _, fun j => if j = k then v else g j, rowIs_setInt h2 k v, fun hs j hj => ?_⟩
  · show (if j = k then v else g j) = f j
    by_cases e : j = k
    · subst e; rw [if_pos rfl]; exact hv hs
    · rw [if_neg e]; exact h3 hs j (by omega)

set_option maxHeartbeats 400000 in
theorem prep_any (ao : Option Addr) (n cap : Nat) (sm : Bool) (f : Nat → Int) (w : World) (hn : n ≤ 512) (hnil : ao = none → n = 0) (hr : Runes w ao n f) :
    Calls Yba.prog 5 #[.slice ao n cap, .bool sm] w (PrepPost n sm f w) := by
  have hmk := run_make_row' (P := Yba.prog) 22 21 (.int .i32 0) 4 Yba.underlying22 Yba.info21 rfl .i64 .i64 n (by omega) (by omega)
  have hq := fun w => Lib.run_eql_slice_nil (P := Yba.prog) w 22 21 ao n cap 0 0 Yba.underlying22
  cases ao with
  | none =>
    obtain rfl := hnil rfl
    go_enter Yba.func5, Yba.ntmps5
    go_wp2
    go_ret
    exact ⟨none, 0, f, rfl, fun _ => rfl, hr, fun _ _ _ => rfl, Below.refl _ _⟩
  | some ad =>
    have st := PrepRel.start n sm f w
    clear hnil
    go_enter Yba.func5, Yba.ntmps5
    go_wp2
    clear hmk hq
    go_loopg [6] n (fun g i wr => ∃ k : Nat, k ≤ n ∧ g = n - k ∧ i = .int .i64 k ∧ PrepRel n sm f w k wr)
    case atStart => exact ⟨0, Nat.zero_le _, rfl, rfl, st⟩
    case round =>
      obtain ⟨k, hk, rfl, rfl, hR⟩ := hrel
      clear st
      by_cases hlt : k < n
      · obtain ⟨b, off, hb, hc⟩ := hr
        obtain rfl : ad = ⟨b, off, none⟩ := by simpa using hb (by omega)
        have hc0 := hc k hlt
        have hbl : b < w.heap.size := World.block_lt_of_cell? _ _ hc0
        have hck : wr.cell? ⟨b, off + k, none⟩ = some (.int .i32 (f k)) := by rw [hR.1.cell (p := ⟨b, off + k, none⟩) hbl]; exact hc0
        have HR := hR
        obtain ⟨hB, g, hrow, hg⟩ := hR
        have hst := hrow.cell hlt
        have hfz := hrow.frozen k
        have HN := fun v hv => HR.next v hv
        clear hc hc0 hb hrow hg HR hB
        cases sm with
        | true =>
          go_wp2
          go_roundg (n - (k + 1))
          case measure => omega
          case rel => exact ⟨k + 1, by omega, rfl, by go_num, HN _ (fun h => by cases h)⟩
        | false =>
          go_wp2
          go_roundg (n - (k + 1))
          case measure => omega
          case rel => exact ⟨k + 1, by omega, rfl, by go_num, HN _ (fun _ => rfl)⟩
      · go_wp2
        go_ret
        obtain ⟨hB, g, hrow, hg⟩ := hR
        exact ⟨some ⟨w.heap.size, 0, none⟩, n, g, rfl, (fun h => by cases h), ⟨w.heap.size, 0, fun _ => rfl, fun j hj => by rw [Nat.zero_add]; exact hrow.cell hj⟩, fun hs j hj => hg hs j (by omega), hB⟩
end Go.Proofs.Ybulkbtcm
