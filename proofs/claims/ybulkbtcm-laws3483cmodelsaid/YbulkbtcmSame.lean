import Derived.Test.YbulkbtcmBase
namespace Go.Proofs.Ybulkbtcm
open Go.RowKit

def SamePost (w : World) (e : Ending) (w' : World) : Prop := e = .returned (.bool true) ∧ Below w.heap.size w w'

set_option maxHeartbeats 400000 in
theorem same_any (aa ab : Option Addr) (n ca cb : Nat) (f : Nat → Int) (w : World) (hn : n ≤ 512) (ha : Runes w aa n f) (hb : Runes w ab n f) :
    Calls Yba.prog 7 #[.slice aa n ca, .slice ab n cb] w (SamePost w) := by
  go_enter Yba.func7, Yba.ntmps7
  go_wp2
  go_loopg [5] n (fun g i wr => ∃ k : Nat, k ≤ n ∧ g = n - k ∧ i = .int .i64 k ∧ Below w.heap.size w wr)
  case atStart => exact ⟨0, Nat.zero_le _, rfl, rfl, Below.refl _ _⟩
  case round =>
    obtain ⟨k, hk, rfl, rfl, hB⟩ := hrel
    by_cases hlt : k < n
    · have ha' := ha
      have hb' := hb
      obtain ⟨b, off, hb1, hc1⟩ := ha'
      obtain ⟨b2, off2, hb2, hc2⟩ := hb'
      obtain rfl := hb1 (by omega)
      obtain rfl := hb2 (by omega)
      have g1 : wr.cell? ⟨b, off + k, none⟩ = some (.int .i32 (f k)) := by
        rw [hB.cell (p := ⟨b, off + k, none⟩) (World.block_lt_of_cell? _ _ (hc1 k hlt))]; exact hc1 k hlt
      have g2 : wr.cell? ⟨b2, off2 + k, none⟩ = some (.int .i32 (f k)) := by
        rw [hB.cell (p := ⟨b2, off2 + k, none⟩) (World.block_lt_of_cell? _ _ (hc2 k hlt))]; exact hc2 k hlt
      have hi : (k : Int) < (n : Int) := by omega
      clear hc1 hc2 hb1 hb2 ha hb
      go_wp2
      go_quiet (fail)
      go_wp2
      go_roundg (n - (k + 1))
      case measure => omega
      case rel => exact ⟨k + 1, by omega, rfl, by go_num, below_drewN hB _⟩
    · go_wp2
      go_ret
      exact ⟨rfl, hB⟩
end Go.Proofs.Ybulkbtcm
