import Derived.Test.YbulkbtggRowsOf
import Derived.LaidEqlPtr
namespace Go.Proofs.Ybulkbtgg
open Go.RowKit Plain

/-- A pointer is no other than itself. -/
theorem neqptr (w : World) (a : Addr) : (binOp .neq 30 (.pointer (some a)) (.pointer (some a))).run Yba.prog w = .ok (.bool false) w := by
  obtain ⟨i, hi, _⟩ := Option.map_eq_some_iff.1 Yba.info33
  have h : ∀ d : Nat, (Op.equalIn (d + 1) 30 (.pointer (some a)) (.pointer (some a))).run Yba.prog w = .ok true w := fun d => by
    simp [Op.equalIn, run_underlying Yba.underlying30, sizeOf, typeInfo, hi, run_sameAddr_same]
  simp only [binOp]
  simp [Op.equal, Op.maxDepth, h 9999]

def TruePost (w : World) (e : Ending) (w' : World) : Prop := e = .returned (.bool true) ∧ Below w.heap.size w w'

set_option maxHeartbeats 1000000 in
theorem check_none (w : World) (wd : Nat) (pv : Value) : Calls Yba.prog 7 #[.slice none 0 0, .int .i64 0, .int .i64 (wd : Int), pv] w (TruePost w) := by
  have hnil := fun w => eqnil25 w none 0 0
  go_enter Yba.func7, Yba.ntmps7
  go_wp2
  go_ret
  exact ⟨rfl, Below.refl _ _⟩

set_option maxHeartbeats 1000000 in
theorem check_any (w : World) (n wd : Nat) (B : Nat) (ao : Nat → Option Addr) (pv : Value) (hwd : wd < 8) (hn : 0 < n ∧ n ≤ 1024) (hrow : w.rowIs B 24 n (fun j => .slice (ao j) wd wd))
    (hp : 0 < wd → ∃ P m c, pv = .slice (some ⟨P, 0, none⟩) m c ∧ n ≤ m ∧ m ≤ 1024 ∧ ∀ j, j < n → ∃ x y, ao j = some ⟨x, y, none⟩ ∧ w.cell? ⟨P, j, none⟩ = some (.pointer (some ⟨x, y, none⟩))) :
    Calls Yba.prog 7 #[.slice (some ⟨B, 0, none⟩) n n, .int .i64 (n : Int), .int .i64 (wd : Int), pv] w (TruePost w) := by
  have hnb : ((n : Int) == 0) = false := by simp; omega
  go_enter Yba.func7, Yba.ntmps7
  go_wp2
  go_loopg [9] n (fun gg v wr => ∃ i : Nat, i ≤ n ∧ gg = n - i ∧ v = .int .i64 (i : Int) ∧ Below w.heap.size w wr)
  case atStart => exact ⟨0, by omega, rfl, rfl, Below.refl _ _⟩
  case round =>
    obtain ⟨i, hi, rfl, rfl, hb⟩ := hrel
    by_cases hin : i < n
    · have k0 := bc hb (hrow.cell hin)
      by_cases hw0 : 0 < wd
      · obtain ⟨P, m, c, rfl, hm, hm2, hc⟩ := hp hw0
        obtain ⟨x, y, ha, hcell⟩ := hc i hin
        have k1 := bc hb hcell
        simp only [ha] at k0
        have hge : decide ((m : Int) ≤ (i : Int)) = false := by simp; omega
        have hge2 : decide (m ≤ i) = false := by simp; omega
        have him : i < m := by omega
        have hpq := fun w => neqptr w ⟨x, y, none⟩
        have him2 : (i : Int) < (m : Int) := by omega
        clear hc hp hrow ha hcell
        go_wp2
        go_quiet (fail)
        go_wp2
        go_roundg (n - (i + 1))
        case measure => omega
        case rel => exact ⟨i + 1, by omega, rfl, by go_num, ⟨hb.os, hb.tape, hb.output, hb.size, hb.block⟩⟩
      · obtain rfl : wd = 0 := by omega
        clear hp hrow
        go_wp2
        go_roundg (n - (i + 1))
        case measure => omega
        case rel => exact ⟨i + 1, by omega, rfl, by go_num, hb⟩
    · clear hp hrow
      go_wp2
      go_ret
      exact ⟨rfl, hb⟩
end Go.Proofs.Ybulkbtgg
