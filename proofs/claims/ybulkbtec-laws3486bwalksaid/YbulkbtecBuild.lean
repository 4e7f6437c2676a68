import Derived.Test.YbulkbtecHost
import Derived.Test.YbulkbtecText
namespace Go.Proofs.Ybulkbtec
open Go.RowKit Plain

/-- Two own slices lie in two blocks. -/
def Apart (v u : Value) : Prop := ∀ k, v.ownBlock = some k → u.ownBlock ≠ some k
theorem Apart.symm {v u : Value} (h : Apart v u) : Apart u v := fun k h1 h2 => h k h2 h1
theorem Apart.ne {v u : Value} (h : Apart v u) : v.ownBlock = none ∨ v.ownBlock ≠ u.ownBlock := by
  cases e : v.ownBlock with
  | none => exact .inl rfl
  | some k => exact .inr fun h2 => h k e h2.symm
theorem Apart.step {w w' : World} {base : Nat} {v u u' : Value} {l : List Int} (h : Apart v u) (ho : OwnU w base v l) (hs : Step w w' u u') : Apart v u' := by
  intro k hk hk'
  rcases hs.own with e | e
  · exact h k hk (by rw [← e]; exact hk')
  · have h1 := e k hk'
    have h2 := (World.ownsRow.lt ho k hk).2
    omega
theorem OwnU.form {w : World} {base : Nat} {v : Value} {l : List Int} (h : OwnU w base v l) : ∃ a c, v = .slice a l.length c := by
  rcases h.2 with ⟨h1, h2⟩ | ⟨g, cap, cur, hv, _⟩
  · exact ⟨none, 0, by rw [h1, h2]⟩
  · exact ⟨_, _, hv⟩

/-- The world in the midst of the building. -/
structure Bld (W0 wr : World) (base : Nat) (b : Nat → Bool) (c : Nat → Int) (K : Nat) (vb vc : Value) : Prop where
  below : Below base W0 wr
  size : base ≤ wr.heap.size
  bnd : OwnU wr base vb (bl b K)
  cnt : OwnU wr base vc (cl b c K)
  apart : Apart vb vc

def BuildPost (b : Nat → Bool) (c : Nat → Int) (w : World) (e : Ending) (w' : World) : Prop :=
  ∃ vb vc, e = .returned (.agg #[.string (tx b 10), .int .i64 0, vb, vc]) ∧ Hosts w' (tx b 10) vb b ∧ U64s w' vc (rank b 10) c ∧ Below w.heap.size w w'

set_option maxHeartbeats 1000000 in
theorem build_any (m : Int) (_hm : 0 ≤ m ∧ m ≤ 65535) (ao : Option Addr) (len cap : Nat) (f : Nat → Int) (hl63 : len ≤ 9223372036854775807) (w : World) (ha : Args w ao len f) :
    Calls Yba.prog 4 #[.int .u16 m, .slice ao len cap] w (BuildPost (bt m) (cv f len) w) := by
  obtain ⟨b, hb⟩ : ∃ b, bt m = b := ⟨_, rfl⟩
  rw [hb]
  go_enter Yba.func4, Yba.ntmps4
  go_wp2
  obtain ⟨W0, hW0⟩ : ∃ W0, W0 = w.alloc (.cells #[.string ⟨#[]⟩, .int .i64 0, .slice none 0 0, .slice none 0 0] 27) := ⟨_, rfl⟩
  have hsz0 : W0.heap.size = w.heap.size + 1 := by rw [hW0]; simp
  have hbw0 : Below w.heap.size w W0 := by rw [hW0]; exact (Below.refl _ _).alloc (Nat.le_refl _) _
  have c0 : W0.heap[w.heap.size]? = some (.cells #[.string ⟨#[]⟩, .int .i64 0, .slice none 0 0, .slice none 0 0] 27 (0, 0)) := by rw [hW0]; exact heap_alloc_new _ _
  have st : Bld W0 W0 (w.heap.size + 1) b (cv f len) 0 (.slice none 0 0) (.slice none 0 0) := ⟨Below.refl _ _, by omega, OwnU.nil _ _, OwnU.nil _ _, fun k h => by simp [Value.ownBlock] at h⟩
  rw [← hW0]
  clear hW0
  go_loopg [5, 6, 7, 8] 10 (fun g vt vb vc vk wr => ∃ (K : Nat) (a7 : Option Addr) (c7 : Nat), K ≤ 10 ∧ g = 10 - K ∧ vt = .string (tx b K) ∧ vc = .slice a7 (rank b K) c7 ∧ vk = .int .i64 K ∧ Bld W0 wr (w.heap.size + 1) b (cv f len) K vb (.slice a7 (rank b K) c7))
  case atStart => exact ⟨0, none, 0, by omega, rfl, rfl, rfl, rfl, st⟩
  case round =>
    clear st
    obtain ⟨K, a7, c7, hK, rfl, rfl, rfl, rfl, hD⟩ := hrel
    have hts := tx_size b K
    have hrk := rank_le b K
    by_cases hlt : K < 10
    · cases hbK : b K with
      | false =>
        have h1 : (bits BinOp.and IntKind.u16 (m / 2 ^ K) 1 == 0) = true := bt_no (by rw [hb]; exact hbK)
        have hD' : Bld W0 wr (w.heap.size + 1) b (cv f len) (K + 1) u6 (.slice a7 (rank b (K + 1)) c7) := by
          rw [rank_no hbK]; exact ⟨hD.below, hD.size, by rw [bl_no hbK]; exact hD.bnd, by rw [cl_no hbK]; exact hD.cnt, hD.apart⟩
        have HT : Hid (tx b (K + 1) = tx b K ∧ rank b (K + 1) = rank b K) := ⟨tx_no hbK, rank_no hbK⟩
        clear hD hbK
        have HB : Hid (bt m = b) := hb
        clear hb
        go_wp2
        go_roundg (10 - (K + 1))
        case measure => omega
        case rel => exact ⟨K + 1, a7, c7, by omega, rfl, by rw [HT.out.1], by rw [HT.out.2], by go_num, hD'⟩
      | true =>
        have h1 : (bits BinOp.and IntKind.u16 (m / 2 ^ K) 1 == 0) = false := bt_yes (by rw [hb]; exact hbK)
        have hns := nm_size K
        obtain ⟨v1, w1, hap1, ho1, hs1⟩ := append_u wr (w.heap.size + 1) u6 (bl b K) ((tx b K).size : Int) hD.bnd (by rw [bl_len]; omega) hD.size
        have hsz1 : w.heap.size + 1 ≤ w1.heap.size := Nat.le_trans hD.size hs1.grown.size
        obtain ⟨v2, w2, hap2, ho2, hs2⟩ := append_u w1 (w.heap.size + 1) v1 (bl b K ++ [((tx b K).size : Int)]) (((tx b K).size : Int) + (nm K).size) ho1 (by rw [List.length_append, bl_len]; simp; omega) hsz1
        have hsz2 : w.heap.size + 1 ≤ w2.heap.size := Nat.le_trans hsz1 hs2.grown.size
        have hcn1 : OwnU w1 (w.heap.size + 1) (.slice a7 (rank b K) c7) (cl b (cv f len) K) := hD.cnt.step hs1 hD.apart.symm.ne
        have hap1' : Apart (.slice a7 (rank b K) c7) v1 := hD.apart.symm.step hD.cnt hs1
        have hcn2 : OwnU w2 (w.heap.size + 1) (.slice a7 (rank b K) c7) (cl b (cv f len) K) := hcn1.step hs2 hap1'.ne
        have hap2' : Apart (.slice a7 (rank b K) c7) v2 := hap1'.step hcn1 hs2
        obtain ⟨v3, w3, hap3, ho3, hs3⟩ := append_u w2 (w.heap.size + 1) (.slice a7 (rank b K) c7) (cl b (cv f len) K) (cv f len (rank b K)) hcn2 (by rw [cl_len]; omega) hsz2
        have hw12 := hs1.trans hs2
        have hD' : Bld W0 w3 (w.heap.size + 1) b (cv f len) (K + 1) v2 v3 := by
          have hb12 : Below (w.heap.size + 1) wr w2 := hw12.below hD.size (fun k hk => (World.ownsRow.lt hD.bnd k hk).1)
          have hb23 : Below (w.heap.size + 1) w2 w3 := hs3.below hsz2 (fun k hk => (World.ownsRow.lt hcn2 k hk).1)
          refine ⟨(hD.below.trans hb12).trans hb23, Nat.le_trans hsz2 hs3.grown.size, ?_, ?_, ?_⟩
          · rw [bl_yes hbK]
            rw [List.append_assoc] at ho2
            exact ho2.step hs3 hap2'.symm.ne
          · rw [cl_yes hbK]; exact ho3
          · exact (hap2'.symm).step ho2 hs3
        obtain ⟨a3, c3, e3⟩ := ho3.form
        have hl3 : (cl b (cv f len) K ++ [cv f len (rank b K)]).length = rank b (K + 1) := by rw [← cl_yes hbK, cl_len]
        rw [hl3] at e3
        have HT : Hid (tx b (K + 1) = tx b K ++ nm K ∧ v3 = .slice a3 (rank b (K + 1)) c3) := ⟨tx_yes hbK, e3⟩
        have HB : Hid (bt m = b) := hb
        have hbw2 : Below w.heap.size w w2 := hbw0.trans ((hD.below.trans (hw12.below hD.size (fun k hk => (World.ownsRow.lt hD.bnd k hk).1))).mono (by omega))
        clear hb hbK hl3 e3 ho3 ho2 ho1 hs1 hs2 hs3 hw12 hcn1 hcn2 hap1' hap2' hD
        by_cases hrl : rank b K < len
        · have e : cv f len (rank b K) = f (rank b K) := by unfold cv; rw [if_pos hrl]
          rw [e] at hap3
          obtain ⟨b1, o1, ha1, hc1⟩ := ha.later hbw2
          obtain rfl := ha1 (by omega)
          have k1 := hc1 _ hrl
          clear e hc1 ha1
          go_wp2_with (first | (at_builtin; refine wpList_append_run rfl rfl rfl hap1 rfl rfl ?_) | (at_builtin; refine wpList_append_run rfl rfl rfl hap2 rfl rfl ?_) | (at_builtin; refine wpList_append_run rfl rfl rfl hap3 rfl rfl ?_) | (go_at_call 5; refine (nm_any K hlt _).mono ?_; rintro e w' ⟨rfl, rfl⟩))
          obtain ⟨T1, T2⟩ := HT.out
          subst T2
          go_roundg (10 - (K + 1))
          case measure => omega
          case rel => exact ⟨K + 1, a3, c3, by omega, rfl, by rw [T1], rfl, by go_num, hD'⟩
        · have e : cv f len (rank b K) = (rank b K : Int) + 1 := by unfold cv; rw [if_neg hrl]
          rw [e] at hap3
          clear e
          go_wp2_with (first | (at_builtin; refine wpList_append_run rfl rfl rfl hap1 rfl rfl ?_) | (at_builtin; refine wpList_append_run rfl rfl rfl hap2 rfl rfl ?_) | (at_builtin; refine wpList_append_run rfl rfl rfl hap3 rfl rfl ?_) | (go_at_call 5; refine (nm_any K hlt _).mono ?_; rintro e w' ⟨rfl, rfl⟩))
          obtain ⟨T1, T2⟩ := HT.out
          subst T2
          go_roundg (10 - (K + 1))
          case measure => omega
          case rel => exact ⟨K + 1, a3, c3, by omega, rfl, by rw [T1], rfl, by go_num, hD'⟩
    · obtain rfl : K = 10 := by omega
      have c1 := (hD.below.block w.heap.size (by omega)).trans c0
      have k0 : wr.cell? ⟨w.heap.size, 0, none⟩ = some (.string ⟨#[]⟩) := (cell_of_row wr _ 0 _ _ _ c1).trans rfl
      have k1 : wr.cell? ⟨w.heap.size, 1, none⟩ = some (.int .i64 0) := (cell_of_row wr _ 1 _ _ _ c1).trans rfl
      have k2 : wr.cell? ⟨w.heap.size, 2, none⟩ = some (.slice none 0 0) := (cell_of_row wr _ 2 _ _ _ c1).trans rfl
      have k3 : wr.cell? ⟨w.heap.size, 3, none⟩ = some (.slice none 0 0) := (cell_of_row wr _ 3 _ _ _ c1).trans rfl
      have f0 := frozen_of_row wr w.heap.size 0 _ _ c1
      have f1 := frozen_of_row wr w.heap.size 1 _ _ c1
      have f2 := frozen_of_row wr w.heap.size 2 _ _ c1
      have f3 := frozen_of_row wr w.heap.size 3 _ _ c1
      obtain ⟨a6, c6, e6⟩ := hD.bnd.form
      rw [bl_len] at e6
      subst e6
      go_wp2
      have hbwr : Below w.heap.size w wr := hbw0.trans (hD.below.mono (by omega))
      have set4 : ∀ (v : Value) (l : List Int) (x0 x1 x2 x3 : Value), OwnU wr (w.heap.size + 1) v l → OwnU ((((wr.setCell ⟨w.heap.size, 0, none⟩ x0).setCell ⟨w.heap.size, 1, none⟩ x1).setCell ⟨w.heap.size, 2, none⟩ x2).setCell ⟨w.heap.size, 3, none⟩ x3) (w.heap.size + 1) v l := fun v l x0 x1 x2 x3 h =>
        ownsRow_setCell_below (ownsRow_setCell_below (ownsRow_setCell_below (ownsRow_setCell_below h (a := ⟨w.heap.size, 0, none⟩) (Nat.lt_succ_self _) x0) (a := ⟨w.heap.size, 1, none⟩) (Nat.lt_succ_self _) x1) (a := ⟨w.heap.size, 2, none⟩) (Nat.lt_succ_self _) x2) (a := ⟨w.heap.size, 3, none⟩) (Nat.lt_succ_self _) x3
      refine bodyPost_ret (v := .agg #[.string (tx b 10), .int .i64 0, .slice a6 (2 * rank b 10) c6, .slice a7 (rank b 10) c7]) (by simp [results, Yba.results4, go_sem, k0, k1, k2, k3]) rfl ⟨_, _, rfl, ?_, ?_, ?_⟩
      · have hr := (set4 _ _ (.string (tx b 10)) (.int .i64 0) (.slice a6 (2 * rank b 10) c6) (.slice a7 (rank b 10) c7) hD.bnd).reads
        rw [bl_len] at hr
        refine ⟨by omega, _, hr, fun k hk hbk => ?_⟩
        obtain ⟨g1, g2⟩ := bl_get b 10 k hk hbk
        obtain ⟨t1, t2⟩ := tx_get b 10 k hk hbk
        exact ⟨(tx b k).size, g1, g2, t1, t2⟩
      · have hr := (set4 _ _ (.string (tx b 10)) (.int .i64 0) (.slice a6 (2 * rank b 10) c6) (.slice a7 (rank b 10) c7) hD.cnt).reads
        rw [cl_len] at hr
        exact hr.congr (fun j hj => cl_get b _ 10 j hj)
      · exact (((hbwr.setCell (Nat.le_refl _) _).setCell (Nat.le_refl _) _).setCell (Nat.le_refl _) _).setCell (Nat.le_refl _) _
end Go.Proofs.Ybulkbtec
