import Derived.Test.YbulkbtdaLayout
import Derived.Deep.RegionWith
namespace Go.Proofs.Ybulkbtda
open Go.RowKit

def MbPost (base : Nat) (w : World) (l : List Int) (e : Ending) (w' : World) : Prop :=
  ∃ v', e = .returned (.tuple #[v', .nilIface]) ∧ Own w' base v' l ∧ Below w.heap.size w w'

def z82 : Array Value := Array.replicate 82 (.int .u8 0)
theorem zero43 (w : World) : (zeroValue 43).run Yba.prog w = .ok (.agg z82) w := by kernel_rfl

set_option maxHeartbeats 1000000 in
set_option maxRecDepth 100000 in
theorem mb_any (base : Nat) (F : Nat → Int) (w : World) (hF : ∀ k, -9223372036854775808 ≤ F k ∧ F k ≤ 9223372036854775807) (h7 : -2147483648 ≤ F 7 ∧ F 7 ≤ 2147483647) (hbase : base ≤ w.heap.size) :
    Calls Yba.prog 11 #[.agg #[.int .i64 (F 0), .int .i64 (F 1), .int .i64 (F 2), .int .i64 (F 3), .int .i64 (F 4), .int .i64 (F 5), .int .i64 (F 6), .int .i32 (F 7)]] w (MbPost base w (binl F)) := by
  have hz := zero43
  go_enter Yba.func11, Yba.ntmps11
  go_wp2
  clear hz
  obtain ⟨W, hW⟩ : ∃ W, W = (w.alloc (.cells #[.int .i64 (F 0), .int .i64 (F 1), .int .i64 (F 2), .int .i64 (F 3), .int .i64 (F 4), .int .i64 (F 5), .int .i64 (F 6), .int .i32 (F 7)] 28)).alloc (.cells z82 43) := ⟨_, rfl⟩
  rw [← hW]
  have hsz : (w.alloc (.cells #[.int .i64 (F 0), .int .i64 (F 1), .int .i64 (F 2), .int .i64 (F 3), .int .i64 (F 4), .int .i64 (F 5), .int .i64 (F 6), .int .i32 (F 7)] 28)).heap.size = w.heap.size + 1 := by simp
  have hp : Per W w.heap.size F := by
    rw [hW]
    show ((w.alloc _).alloc _).heap[w.heap.size]? = _
    rw [Below.heap_alloc _ _ _ (by simp)]
    exact heap_alloc_new _ _
  have hbW : Below w.heap.size w W := by rw [hW]; exact ((Below.refl _ _).alloc (Nat.le_refl _) _).alloc (by simp) _
  have hO : Own W base (.slice (some ⟨w.heap.size + 1, 0, none⟩) 0 82) [] := by
    refine .inr ⟨w.heap.size + 1, 82, z82, 43, rfl, by omega, ?_, by simp, by unfold maxLen; omega, by simp [z82], by simp⟩
    rw [hW, ← hsz]
    exact heap_alloc_new _ _
  have hO' : Own W.drew base (.slice (some ⟨w.heap.size + 1, 0, none⟩) 0 82) [] := hO
  have hc := ab_any base (.slice (some ⟨w.heap.size + 1, 0, none⟩) 0 82) [] F W.drew hF h7 hO' (by simp) (Nat.le_trans hbase hbW.size)
  rw [List.nil_append] at hc
  have HC : Hid (Calls Yba.prog 8 #[.agg #[.int .i64 (F 0), .int .i64 (F 1), .int .i64 (F 2), .int .i64 (F 3), .int .i64 (F 4), .int .i64 (F 5), .int .i64 (F 6), .int .i32 (F 7)], .slice (some ⟨w.heap.size + 1, 0, none⟩) 0 82] W.drew (AbPost base W.drew (.slice (some ⟨w.heap.size + 1, 0, none⟩) 0 82) (binl F))) := hc
  obtain ⟨c0, c1, c2, c3, c4, c5, c6, c7⟩ := hp.cells
  clear hW hp hO hO' hc hsz
  go_cut [5, 6] (fun b e wc => Own wc base b (binl F) ∧ Below w.heap.size w wc)
  case first =>
    go_region_with (go_at_call 8; refine HC.out.mono ?_; rintro e w3 ⟨v3, rfl, ho3, hs3⟩)
    all_goals go_wp2
    all_goals go_meet
    case rel => exact ⟨ho3, hbW.trans ((Below.refl _ W).drew.trans (hs3.below hbW.size (fun k hk => by simp [Value.ownBlock] at hk; omega)))⟩
  case rest =>
    obtain ⟨ho, hb⟩ := hcut
    obtain ⟨ao, c, rfl, hn, hs⟩ := ho.reads
    obtain ⟨v4, w4, hap, ho4, hs4⟩ := append_own wc base (.slice none 0 0) [] (binl F) ao c (Own.nil _ _) (fun h => absurd (hn h) (by simp [binl])) hs (by have := binl_len F; simp; omega) (Nat.le_trans hbase hb.size)
    rw [List.nil_append] at ho4
    have hb4 : Below w.heap.size w w4 := hb.trans (hs4.below hb.size (fun k hk => by simp [Value.ownBlock] at hk))
    clear c0 c1 c2 c3 c4 c5 c6 c7 HC hbW
    go_wp2_with (at_builtin; refine wpList_append_run rfl rfl hap rfl rfl ?_)
    go_ret2
    exact ⟨v4, rfl, ho4, hb4⟩
end Go.Proofs.Ybulkbtda
