import Derived.Test.YbulkbtecBase
namespace Go.Proofs.Ybulkbtec
open Go.RowKit Plain

def SamePost (v : Value) (w : World) (e : Ending) (w' : World) : Prop := e = .returned v ∧ w = w'

set_option maxHeartbeats 400000 in
theorem nm_any (k : Nat) (hk : k < 10) (w : World) : Calls Yba.prog 5 #[.int .i64 (k : Int)] w (SamePost (.string (nm k)) w) := by
  rcases (by omega : k = 0 ∨ k = 1 ∨ k = 2 ∨ k = 3 ∨ k = 4 ∨ k = 5 ∨ k = 6 ∨ k = 7 ∨ k = 8 ∨ k = 9) with rfl | rfl | rfl | rfl | rfl | rfl | rfl | rfl | rfl | rfl
  all_goals
    go_enter Yba.func5, Yba.ntmps5
    go_wp2
    go_ret
    exact ⟨rfl, rfl⟩

/-- Bit k of the mask. -/
def bt (m : Int) (k : Nat) : Bool := !(bits BinOp.and IntKind.u16 (m / 2 ^ k) 1 == 0)
theorem bt_yes {m : Int} {k : Nat} (h : bt m k = true) : (bits BinOp.and IntKind.u16 (m / 2 ^ k) 1 == 0) = false := by simpa [bt] using h
theorem bt_no {m : Int} {k : Nat} (h : bt m k = false) : (bits BinOp.and IntKind.u16 (m / 2 ^ k) 1 == 0) = true := by simpa [bt] using h
theorem bt_yes' {m : Int} {k : Nat} (h : bt m k = true) : (bits BinOp.and IntKind.u16 (m / 2 ^ k) 1 != 0) = true := by simpa [bt] using h
theorem bt_no' {m : Int} {k : Nat} (h : bt m k = false) : (bits BinOp.and IntKind.u16 (m / 2 ^ k) 1 != 0) = false := by simpa [bt] using h

/-- The slice with address 'ao' and length n, an argument, reads as f 0, f 1, .. -/
def Args (w : World) (ao : Option Addr) (n : Nat) (f : Nat → Int) : Prop :=
  ∃ b off, (0 < n → ao = some ⟨b, off, none⟩) ∧ ∀ j, j < n → w.cell? ⟨b, off + j, none⟩ = some (.int .u64 (f j))
theorem Args.later {w w' : World} {ao : Option Addr} {n : Nat} {f : Nat → Int} (h : Args w ao n f) (hb : Below w.heap.size w w') : Args w' ao n f := by
  obtain ⟨b, off, h1, h2⟩ := h
  refine ⟨b, off, h1, fun j hj => ?_⟩
  rw [hb.cell (p := ⟨b, off + j, none⟩) (World.block_lt_of_cell? _ _ (h2 j hj))]
  exact h2 j hj
/-- The count of the i-th named host. -/
def cv (f : Nat → Int) (len i : Nat) : Int := if i < len then f i else (i : Int) + 1
/-- The count of host k, 0 where it is not named. -/
def ck (b : Nat → Bool) (f : Nat → Int) (len k : Nat) : Int := if b k then cv f len (rank b k) else 0

set_option maxHeartbeats 400000 in
theorem cnt_any (m : Int) (_hm : 0 ≤ m ∧ m ≤ 65535) (ao : Option Addr) (len cap k : Nat) (f : Nat → Int) (hl63 : len ≤ 9223372036854775807) (hk : k < 10) (w : World) (ha : Args w ao len f) :
    Calls Yba.prog 6 #[.int .u16 m, .slice ao len cap, .int .i64 (k : Int)] w (SamePost (.int .u64 (ck (bt m) f len k)) w) := by
  cases hb : bt m k with
  | false =>
    have h1 := bt_no hb
    have HC : Hid (ck (bt m) f len k = 0) := by show _ = _; simp [ck, hb]
    clear hb
    go_enter Yba.func6, Yba.ntmps6
    go_wp2
    go_ret
    exact ⟨ret_int HC.out.symm, rfl⟩
  | true =>
    have h1 := bt_yes hb
    have HC : Hid (ck (bt m) f len k = cv f len (rank (bt m) k)) := by show _ = _; simp [ck, hb]
    clear hb
    go_enter Yba.func6, Yba.ntmps6
    go_wp2
    go_loopg [7, 8] k (fun g vi vq wr => ∃ q : Nat, q ≤ k ∧ g = k - q ∧ vi = .int .i64 (rank (bt m) q : Int) ∧ vq = .int .i64 q ∧ w = wr)
    case atStart => exact ⟨0, Nat.zero_le _, rfl, rfl, rfl, rfl⟩
    case round =>
      obtain ⟨q, hq, rfl, rfl, rfl, rfl⟩ := hrel
      have hrk := rank_le (bt m) q
      by_cases hlt : q < k
      · cases hb : bt m q with
        | false =>
          have h2 := bt_no' hb
          have HR : Hid (rank (bt m) (q + 1) = rank (bt m) q) := rank_no hb
          clear hb
          go_wp2
          go_roundg (k - (q + 1))
          case measure => omega
          case rel => exact ⟨q + 1, by omega, rfl, by rw [HR.out], by go_num, rfl⟩
        | true =>
          have h2 := bt_yes' hb
          have HR : Hid (rank (bt m) (q + 1) = rank (bt m) q + 1) := rank_yes hb
          clear hb
          go_wp2
          go_roundg (k - (q + 1))
          case measure => omega
          case rel => exact ⟨q + 1, by omega, rfl, by rw [HR.out]; go_num, by go_num, rfl⟩
      · obtain rfl : q = k := by omega
        obtain ⟨r, hr⟩ : ∃ r, rank (bt m) q = r := ⟨_, rfl⟩
        rw [hr] at hrk HC ⊢
        clear hr
        by_cases hrl : r < len
        · obtain ⟨b1, o1, ha1, hc1⟩ := ha
          obtain rfl := ha1 (by omega)
          have k1 := hc1 r hrl
          clear hc1 ha1
          go_wp2
          go_ret
          exact ⟨ret_int (by rw [HC.out]; unfold cv; rw [if_pos hrl]), rfl⟩
        · go_wp2
          go_ret
          exact ⟨ret_int (by rw [HC.out]; unfold cv; rw [if_neg hrl]), rfl⟩
end Go.Proofs.Ybulkbtec
