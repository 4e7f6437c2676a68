import Derived.Test.YbulkbtggCheck
namespace Go.Proofs.Ybulkbtgg
open Go.RowKit Plain

/-- The resultRows of width 0, k rows kept. -/
abbrev Rz (w : World) (R base k : Nat) : Prop := Rc w R base (.int .i64 0) (.slice none 0 0) (.slice none 0 0) (.slice none 0 0) (.int .i64 (k : Int))
def BPost (v : Value) (w : World) (e : Ending) (w' : World) : Prop := e = .returned v ∧ Below w.heap.size w w'

set_option maxHeartbeats 1000000 in
theorem next_zero (w : World) (R base k : Nat) (h : Rz w R base k) : Calls Yba.prog 5 #[.pointer (some ⟨R, 0, none⟩)] w (BPost (.slice none 0 0) w) := by
  have c0 := h.c0
  have c3 := h.c3
  clear h
  go_enter Yba.func5, Yba.ntmps5
  go_wp2_with fail
  go_quiet (fail)
  go_wp2
  go_quiet (fail)
  go_wp2
  go_ret
  exact ⟨rfl, ⟨rfl, rfl, rfl, Nat.le_refl _, fun _ _ => rfl⟩⟩

def AZPost (R base k : Nat) (w : World) (e : Ending) (w' : World) : Prop := e = .returned (.tuple #[]) ∧ Rz w' R base (k + 1) ∧ Fr R w w' (.slice none 0 0) (.slice none 0 0)

set_option maxHeartbeats 1000000 in
theorem add_zero (w : World) (R base k : Nat) (hk1 : k ≤ 1024) (h : Rz w R base k) : Calls Yba.prog 6 #[.pointer (some ⟨R, 0, none⟩)] w (AZPost R base k w) := by
  have c0 := h.c0
  have c3 := h.c3
  have f3 := h.fz 3
  have hrc3 := h.set3 (.slice none 0 0)
  have d4 := hrc3.c4
  have e4 := hrc3.fz 4
  have HF : Hid (Rz ((w.setCell ⟨R, 3, none⟩ (.slice none 0 0)).setCell ⟨R, 4, none⟩ (.int .i64 ((k : Int) + 1))) R base (k + 1)) := hrc3.set4 _
  have HG : Hid (Fr R w ((w.setCell ⟨R, 3, none⟩ (.slice none 0 0)).setCell ⟨R, 4, none⟩ (.int .i64 ((k : Int) + 1))) (.slice none 0 0) (.slice none 0 0)) := ((Fr.of_below _ (Below.refl _ _)).setR _).setR _
  clear h hrc3
  go_enter Yba.func6, Yba.ntmps6
  go_wp2_with fail
  go_big_region
  go_wp2
  go_end0
  exact ⟨rfl, HF.out.below ⟨rfl, rfl, rfl, Nat.le_refl _, fun _ _ => rfl⟩, HG.out.later ⟨rfl, rfl, rfl, Nat.le_refl _, fun _ _ => rfl⟩⟩

def RZPost (k : Nat) (w : World) (e : Ending) (w' : World) : Prop :=
  ∃ v, e = .returned v ∧ Below w.heap.size w w' ∧ ((k = 0 ∧ v = .slice none 0 0) ∨ (0 < k ∧ ∃ B, v = .slice (some ⟨B, 0, none⟩) k k ∧ w'.rowIs B 24 k (fun _ => .slice none 0 0)))

set_option maxHeartbeats 1000000 in
theorem rows_zero (w : World) (R base k : Nat) (hk1 : k ≤ 1024) (h : Rz w R base k) : Calls Yba.prog 8 #[.pointer (some ⟨R, 0, none⟩)] w (RZPost k w) := by
  by_cases hk0 : k = 0
  · have c4 := h.c4
    subst hk0
    clear h
    go_enter Yba.func8, Yba.ntmps8
    go_wp2
    go_ret
    exact ⟨_, rfl, Below.refl _ _, .inl ⟨rfl, rfl⟩⟩
  · have hmk := run_make_row' (P := Yba.prog) 25 24 (.slice none 0 0) 24 Yba.underlying25 Yba.info24 rfl .i64 .i64 k (by omega) (by omega)
    obtain ⟨W0, hW0⟩ : ∃ W0, W0 = w.alloc (.cells (madeCells #[.slice none 0 0] k) 24) := ⟨_, rfl⟩
    have hbW : Below w.heap.size w W0 := by rw [hW0]; exact (Below.refl _ _).alloc (Nat.le_refl _) _
    have hrow : W0.rowIs w.heap.size 24 k (fun _ => .slice none 0 0) := by rw [hW0]; exact World.rowIs_made w _ _ 24
    have c4 := h.c4
    have c0 := h.c0
    have d1 := bc hbW h.c1
    have d2 := bc hbW h.c2
    have hk63 : (k : Int) ≤ 1024 := by omega
    have hkb : ((k : Int) == 0) = false := by simp; omega
    clear h
    go_enter Yba.func8, Yba.ntmps8
    go_upto_region 4 with fail
    rw [← hW0]
    clear hmk hW0 c4
    go_quiet (fail)
    go_wp2
    clear d1 d2
    go_loopg [4, 5, 27] k (fun gg v4 v5 vi wr => ∃ i : Nat, i ≤ k ∧ gg = k - i ∧ v4 = .slice none 0 0 ∧ v5 = .slice none 0 0 ∧ vi = .int .i64 (i : Int) ∧ Below w.heap.size w wr ∧ wr.rowIs w.heap.size 24 k (fun _ => .slice none 0 0))
    case atStart => exact ⟨0, by omega, rfl, rfl, rfl, rfl, hbW.trans ⟨rfl, rfl, rfl, Nat.le_refl _, fun _ _ => rfl⟩, hrow⟩
    case round =>
      clear hrow hbW
      obtain ⟨i, hi, rfl, rfl, rfl, rfl, hbr, hrow⟩ := hrel
      by_cases hik : i < k
      · have e0 := bc hbr c0
        have k1 := hrow.cell hik
        have k2 := hrow.frozen i
        have hrow3 : (wr.setCell ⟨w.heap.size, i, none⟩ (.slice none 0 0)).rowIs w.heap.size 24 k (fun _ => .slice none 0 0) := (hrow.set i _).congr (fun j _ => by simp)
        have hbf : Below w.heap.size w (wr.setCell ⟨w.heap.size, i, none⟩ (.slice none 0 0)) := hbr.setCell (Nat.le_refl _) _
        clear hrow
        go_upto_region 10 with fail
        go_big_region
        go_wp2
        go_roundg (k - (i + 1))
        case measure => omega
        case rel => exact ⟨i + 1, by omega, rfl, rfl, rfl, by go_num, ⟨hbf.os, hbf.tape, hbf.output, hbf.size, hbf.block⟩, hrow3⟩
      · obtain rfl : i = k := by omega
        go_wp2
        go_ret
        exact ⟨_, rfl, hbr, .inr ⟨by omega, _, rfl, hrow⟩⟩
end Go.Proofs.Ybulkbtgg
