import Derived.Test.YbulkbtcmBase
namespace Go.Proofs.Ybulkbtcm
open Go.RowKit Plain

/-- What editDistance leaves. -/
def EditPost (D : Int) (L : Int) (w : World) (e : Ending) (w' : World) : Prop :=
  e = .returned (.int .i64 (if L < D then L else D)) ∧ Below w.heap.size w w'

/-- Two own rows of m + 1 numbers: block p holds row 'f', block c something. -/
structure Two (w wr : World) (m p c : Nat) (f : Nat → Int) (h : Nat → Int) : Prop where
  below : Below w.heap.size w wr
  pge : w.heap.size ≤ p
  cge : w.heap.size ≤ c
  ne : p ≠ c
  prow : wr.rowIs p 3 (m + 1) (fun j => .int .i64 (f j))
  crow : wr.rowIs c 3 (m + 1) (fun j => .int .i64 (h j))

theorem Two.start (w : World) (m : Nat) : Two w ((w.alloc (.cells (madeCells #[.int .i64 0] (m + 1)) 3)).alloc (.cells (madeCells #[.int .i64 0] (m + 1)) 3)) m w.heap.size (w.heap.size + 1) (fun _ => 0) (fun _ => 0) := by
  have h1 := World.rowIs_made w (.int .i64 0) (m + 1) 3
  have h2 := World.rowIs_made (w.alloc (.cells (madeCells #[.int .i64 0] (m + 1)) 3)) (.int .i64 0) (m + 1) 3
  refine ⟨((Below.refl _ _).alloc (Nat.le_refl _) _).alloc (by simp) _, Nat.le_refl _, by omega, by omega, h1.alloc _, ?_⟩
  have e : (w.alloc (.cells (madeCells #[.int .i64 0] (m + 1)) 3)).heap.size = w.heap.size + 1 := by simp
  rwa [e] at h2

theorem Two.setP {w wr : World} {m p c : Nat} {f h : Nat → Int} (t : Two w wr m p c f h) (i : Nat) (v : Int) : Two w (wr.setCell ⟨p, i, none⟩ (.int .i64 v)) m p c (fun j => if j = i then v else f j) h :=
  ⟨t.below.setCell t.pge _, t.pge, t.cge, t.ne, rowIs_setInt t.prow i v, t.crow.setOther (by exact fun e => t.ne e.symm) _⟩
theorem Two.setC {w wr : World} {m p c : Nat} {f h : Nat → Int} (t : Two w wr m p c f h) (i : Nat) (v : Int) : Two w (wr.setCell ⟨c, i, none⟩ (.int .i64 v)) m p c f (fun j => if j = i then v else h j) :=
  ⟨t.below.setCell t.cge _, t.pge, t.cge, t.ne, t.prow.setOther (by exact t.ne) _, rowIs_setInt t.crow i v⟩
theorem Two.swap {w wr : World} {m p c : Nat} {f h : Nat → Int} (t : Two w wr m p c f h) : Two w wr m c p h f := ⟨t.below, t.cge, t.pge, t.ne.symm, t.crow, t.prow⟩
theorem Two.drewN {w wr : World} {m p c : Nat} {f h : Nat → Int} (t : Two w wr m p c f h) (q : Nat) : Two w (wr.drewN q) m p c f h := ⟨below_drewN t.below q, t.pge, t.cge, t.ne, t.prow, t.crow⟩
theorem step_row {fa fb z : Nat → Int} {i j : Nat} (hz : ∀ t, t ≤ j → z t = (D fa fb (i + 1) t : Nat)) {v : Int} (hv : v = (D fa fb (i + 1) (j + 1) : Nat)) : ∀ t, t ≤ j + 1 → (if t = j + 1 then v else z t) = (D fa fb (i + 1) t : Nat) := by
  intro t ht
  by_cases e : t = j + 1
  · rw [if_pos e, hv, e]
  · rw [if_neg e]; exact hz t (by omega)
theorem Two.drew {w wr : World} {m p c : Nat} {f h : Nat → Int} (t : Two w wr m p c f h) : Two w wr.drew m p c f h := ⟨t.below.drew, t.pge, t.cge, t.ne, t.prow.drew, t.crow.drew⟩

set_option maxHeartbeats 1000000 in
theorem edit_any (aa ab : Option Addr) (n m ca cb : Nat) (L : Int) (fa fb : Nat → Int) (w : World) (hn : n ≤ 512) (hm : m ≤ 512) (hL : (Lit.int .i64 L).wf = true) (ha : Runes w aa n fa) (hb : Runes w ab m fb) :
    Calls Yba.prog 6 #[.slice aa n ca, .slice ab m cb, .int .i64 L] w (EditPost (D fa fb n m) L w) := by
  have hgap := D_gap fa fb n m
  have hmk := run_make_row' (P := Yba.prog) 33 3 (.int .i64 0) 8 Yba.underlying33 Yba.info3 rfl .i64 .i64 (m + 1) (by omega) (by omega)
  have em : ((m + 1 : Nat) : Int) = (m : Int) + 1 := by omega
  rw [em] at hmk
  clear em
  have st := Two.start w m
  have hLb := bounds_i64 hL
  by_cases h1 : L ≤ (n : Int) - (m : Int)
  · go_enter Yba.func6, Yba.ntmps6
    go_wp2
    go_ret
    exact ⟨ret_int (by simp; omega), Below.refl _ _⟩
  by_cases h2 : L ≤ -((n : Int) - (m : Int))
  · go_enter Yba.func6, Yba.ntmps6
    go_wp2
    go_ret
    exact ⟨ret_int (by simp; omega), Below.refl _ _⟩
  clear hgap
  go_enter Yba.func6, Yba.ntmps6
  go_wp2
  clear hmk
  go_loopg [39] (m + 1) (fun g i wr => ∃ (k : Nat) (f h : Nat → Int), k ≤ m + 1 ∧ g = m + 1 - k ∧ i = .int .i64 k ∧ Two w wr m w.heap.size (w.heap.size + 1) f h ∧ ∀ j, j < k → f j = j)
  case atStart => exact ⟨0, _, _, Nat.zero_le _, rfl, rfl, st, fun j hj => by omega⟩
  case round =>
    obtain ⟨k, f, h, hk, rfl, rfl, hT, hf⟩ := hrel
    clear st
    by_cases hlt : k < m + 1
    · have g1 := hT.prow.cell hlt
      have g2 := hT.prow.frozen k
      have hT' := hT.setP k k
      clear hT
      have HF : Hid (∀ j, j < k → f j = j) := hf
      clear hf
      go_wp2
      go_roundg (m + 1 - (k + 1))
      case measure => omega
      case rel => exact ⟨k + 1, _, _, by omega, rfl, by go_num, hT', fun j hj => by
        show (if j = k then (k : Int) else f j) = j
        by_cases e : j = k
        · rw [if_pos e, e]
        · rw [if_neg e]; exact HF.out j (by omega)⟩
    · have hf' : ∀ j, j ≤ m → f j = (D fa fb 0 j : Nat) := fun j hj => by rw [D_zero]; exact hf j (by omega)
      clear hf
      go_wp2
      go_loopg [8, 9, 11] n (fun g vp vc i wr => ∃ (k p c : Nat) (f h : Nat → Int), k ≤ n ∧ g = n - k ∧ vp = .slice (some ⟨p, 0, none⟩) (m + 1) (m + 1) ∧ vc = .slice (some ⟨c, 0, none⟩) (m + 1) (m + 1) ∧ i = .int .i64 ((k : Int) + 1) ∧ Two w wr m p c f h ∧ ∀ j, j ≤ m → f j = (D fa fb k j : Nat))
      case atStart => exact ⟨0, _, _, f, h, Nat.zero_le _, rfl, rfl, rfl, rfl, hT, hf'⟩
      case round =>
        clear hT hf' hlt hk
        obtain ⟨i, p, c, f, h, hi, rfl, rfl, rfl, rfl, hT, hf⟩ := hrel
        by_cases hlt : i < n
        · have g1 := hT.crow.cell (i := 0) (by omega)
          have g2 := hT.crow.frozen 0
          have hT0 := hT.setC 0 ((i : Int) + 1)
          clear hT
          have HF : Hid (∀ j, j ≤ m → f j = (D fa fb i j : Nat)) := hf
          clear hf
          go_wp2
          clear g1 g2 ‹(i : Int) + 1 ≤ (n : Int)›
          go_loopg [12] m (fun g vj wr => ∃ (j : Nat) (z : Nat → Int), j ≤ m ∧ g = m - j ∧ vj = .int .i64 ((j : Int) + 1) ∧ Two w wr m p c f z ∧ ∀ t, t ≤ j → z t = (D fa fb (i + 1) t : Nat))
          case atStart => exact ⟨0, _, Nat.zero_le _, rfl, rfl, hT0, fun t ht => by
            obtain rfl : t = 0 := by omega
            rw [D_left]; simp⟩
          case round =>
            clear hT0
            obtain ⟨j, z, hj, rfl, rfl, hT, hh⟩ := hrel
            by_cases hjl : j < m
            · have ha' := ha
              have hb' := hb
              obtain ⟨b1, o1, hb1, hc1⟩ := ha'
              obtain ⟨b2, o2, hb2, hc2⟩ := hb'
              obtain rfl := hb1 (by omega)
              obtain rfl := hb2 (by omega)
              have k1 : wr.cell? ⟨b1, o1 + i, none⟩ = some (.int .i32 (fa i)) := by
                rw [hT.below.cell (p := ⟨b1, o1 + i, none⟩) (World.block_lt_of_cell? _ _ (hc1 i hlt))]; exact hc1 i hlt
              have k2 : wr.cell? ⟨b2, o2 + j, none⟩ = some (.int .i32 (fb j)) := by
                rw [hT.below.cell (p := ⟨b2, o2 + j, none⟩) (World.block_lt_of_cell? _ _ (hc2 j hjl))]; exact hc2 j hjl
              have k3 := hT.prow.cell (i := j) (by omega)
              have k4 := hT.prow.cell (i := j + 1) (by omega)
              have k5 := hT.crow.cell (i := j) (by omega)
              have k6 := hT.crow.cell (i := j + 1) (by omega)
              have k7 := hT.crow.frozen (j + 1)
              have e1 := HF.out j (by omega)
              have e2 := HF.out (j + 1) (by omega)
              have e3 := hh j (Nat.le_refl _)
              have l1 := D_le fa fb i j
              have l2 := D_le fa fb i (j + 1)
              have l3 := D_le fa fb (i + 1) j
              have m1 : 0 ≤ f j ∧ f j ≤ 2000 := by omega
              have m2 : 0 ≤ f (j + 1) ∧ f (j + 1) ≤ 2000 := by omega
              have m3 : 0 ≤ z j ∧ z j ≤ 2000 := by omega
              have hi1 : (i : Int) < (n : Int) := by omega
              have hj1 : (j : Int) < (m : Int) := by omega
              have hj2 : (j : Int) + 1 < (m : Int) + 1 := by omega
              have hj3 : (j : Int) < (m : Int) + 1 := by omega
              have ds := D_step fa fb i j
              have HT := fun q v => (hT.drewN q).setC (j + 1) v
              by_cases he : fa i = fb j
              · have hne : (fa i != fb j) = false := by simp [he]
                rw [if_pos he] at ds
                have HD : Hid (z j = (D fa fb (i + 1) j : Nat) ∧ f j = (D fa fb i j : Nat) ∧ f (j + 1) = (D fa fb i (j + 1) : Nat) ∧ (D fa fb (i + 1) (j + 1) = min (min (D fa fb i j + 0) (D fa fb i (j + 1) + 1)) (D fa fb (i + 1) j + 1)) ∧ ∀ t, t ≤ j → z t = (D fa fb (i + 1) t : Nat)) := ⟨e3, e1, e2, ds, hh⟩
                clear hh e1 e2 e3 l1 l2 l3 hc1 hc2 hb1 hb2 ha hb hT ds he
                go_wp2
                go_quiet (fail)
                go_wp2
                clear k1 k2 hi1 hj1 hne
                go_big_region
                all_goals go_wp2
                all_goals
                  obtain ⟨q1, q2, q3, q4, q5⟩ := HD.out
                  go_roundg (m - (j + 1))
                  case measure => omega
                  case rel => exact ⟨j + 1, _, by omega, rfl, by go_num, HT _ _, step_row q5 (by omega)⟩
              · have hne : (fa i != fb j) = true := by simp [he]
                rw [if_neg he] at ds
                have HD : Hid (z j = (D fa fb (i + 1) j : Nat) ∧ f j = (D fa fb i j : Nat) ∧ f (j + 1) = (D fa fb i (j + 1) : Nat) ∧ (D fa fb (i + 1) (j + 1) = min (min (D fa fb i j + 1) (D fa fb i (j + 1) + 1)) (D fa fb (i + 1) j + 1)) ∧ ∀ t, t ≤ j → z t = (D fa fb (i + 1) t : Nat)) := ⟨e3, e1, e2, ds, hh⟩
                clear hh e1 e2 e3 l1 l2 l3 hc1 hc2 hb1 hb2 ha hb hT ds he
                go_wp2
                go_quiet (fail)
                go_wp2
                clear k1 k2 hi1 hj1 hne
                go_big_region
                all_goals go_wp2
                all_goals
                  obtain ⟨q1, q2, q3, q4, q5⟩ := HD.out
                  go_roundg (m - (j + 1))
                  case measure => omega
                  case rel => exact ⟨j + 1, _, by omega, rfl, by go_num, HT _ _, step_row q5 (by omega)⟩
            · obtain rfl : j = m := by omega
              go_wp2
              go_roundg (n - (i + 1))
              case measure => omega
              case rel => exact ⟨i + 1, c, p, z, f, by omega, rfl, rfl, rfl, by go_num, hT.swap, hh⟩
        · obtain rfl : i = n := by omega
          have k1 := hT.prow.cell (i := m) (by omega)
          have E1 : Hid (f m = (D fa fb i m : Nat)) := hf m (Nat.le_refl _)
          clear hf
          go_wp2
          all_goals
            go_ret
            exact ⟨ret_int (by rw [← E1.out]; simp; omega), hT.below⟩
end Go.Proofs.Ybulkbtcm
