import Derived.Test.YbulkbtcmBase
namespace Go.Proofs.Ybulkbtcm
open Go.RowKit Plain

/-- What the model's table gives. -/
def LevPost (D : Int) (w : World) (e : Ending) (w' : World) : Prop := e = .returned (.int .i64 D) ∧ Below w.heap.size w w'

/-- The cells ahead of row i, column j are filled. -/
def Filled (fa fb : Nat → Int) (m i j : Nat) (F : Nat → Int) : Prop := ∀ r c, c ≤ m → (r < i ∨ (r = i ∧ c < j)) → F (r * (m + 1) + c) = (D fa fb r c : Nat)

theorem place_inj {m r c i j : Nat} (hc : c ≤ m) (hj : j ≤ m) (h : r * (m + 1) + c = i * (m + 1) + j) : r = i ∧ c = j := by
  have h1 : (r * (m + 1) + c) / (m + 1) = r := by rw [Nat.add_comm, Nat.add_mul_div_right _ _ (by omega), Nat.div_eq_of_lt (by omega)]; omega
  have h2 : (i * (m + 1) + j) / (m + 1) = i := by rw [Nat.add_comm, Nat.add_mul_div_right _ _ (by omega), Nat.div_eq_of_lt (by omega)]; omega
  have : r = i := by rw [← h1, h, h2]
  subst this
  exact ⟨rfl, by omega⟩

theorem Filled.step {fa fb : Nat → Int} {m i j : Nat} {F : Nat → Int} (h : Filled fa fb m i j F) (hj : j ≤ m) {t : Nat} (ht : t = i * (m + 1) + j) {v : Int} (hv : v = (D fa fb i j : Nat)) :
    Filled fa fb m i (j + 1) (fun s => if s = t then v else F s) := by
  intro r c hc hrc
  show (if r * (m + 1) + c = t then v else F (r * (m + 1) + c)) = _
  by_cases e : r * (m + 1) + c = t
  · obtain ⟨rfl, rfl⟩ := place_inj hc hj (e.trans ht)
    rw [if_pos e, hv]
  · rw [if_neg e]
    refine h r c hc ?_
    rcases hrc with h1 | ⟨h1, h2⟩
    · exact .inl h1
    · refine .inr ⟨h1, ?_⟩
      by_cases e2 : c = j
      · subst h1; subst e2; exact absurd ht.symm e
      · omega

theorem Filled.row {fa fb : Nat → Int} {m i : Nat} {F : Nat → Int} (h : Filled fa fb m i (m + 1) F) : Filled fa fb m (i + 1) 0 F := by
  intro r c hc hrc
  refine h r c hc ?_
  by_cases e : r = i
  · exact .inr ⟨e, by omega⟩
  · exact .inl (by omega)

theorem Filled.zero (fa fb : Nat → Int) (m : Nat) (F : Nat → Int) : Filled fa fb m 0 0 F := fun r c _ h => by omega

/-- The world in the midst of the table's making. -/
structure Tab (w wr : World) (n m : Nat) (F : Nat → Int) : Prop where
  below : Below w.heap.size w wr
  row : wr.rowIs w.heap.size 3 ((n + 1) * (m + 1)) (fun j => .int .i64 (F j))
theorem Tab.start (w : World) (n m : Nat) : Tab w (w.alloc (.cells (madeCells #[.int .i64 0] ((n + 1) * (m + 1))) 3)) n m (fun _ => 0) :=
  ⟨(Below.refl _ _).alloc (Nat.le_refl _) _, World.rowIs_made w _ _ 3⟩
theorem Tab.set {w wr : World} {n m : Nat} {F : Nat → Int} (t : Tab w wr n m F) (i : Nat) (v : Int) : Tab w (wr.setCell ⟨w.heap.size, i, none⟩ (.int .i64 v)) n m (fun j => if j = i then v else F j) :=
  ⟨t.below.setCell (Nat.le_refl _) _, rowIs_setInt t.row i v⟩
theorem Tab.drewN {w wr : World} {n m : Nat} {F : Nat → Int} (t : Tab w wr n m F) (q : Nat) : Tab w (wr.drewN q) n m F := ⟨below_drewN t.below q, t.row⟩

theorem mul_lt {n m i : Nat} (hi : i ≤ n) : i * (m + 1) + m < (n + 1) * (m + 1) := by
  have : i * (m + 1) ≤ n * (m + 1) := Nat.mul_le_mul_right _ hi
  rw [Nat.add_mul]; omega
theorem mul_bd {n m : Nat} (hn : n ≤ 512) (hm : m ≤ 512) : (n + 1) * (m + 1) ≤ 263169 := Nat.mul_le_mul (by omega : n + 1 ≤ 513) (by omega : m + 1 ≤ 513)

set_option maxHeartbeats 1000000 in
set_option maxRecDepth 100000 in
theorem lev_any (aa ab : Option Addr) (n m ca cb : Nat) (fa fb : Nat → Int) (w : World) (hn : n ≤ 512) (hm : m ≤ 512) (ha : Runes w aa n fa) (hb : Runes w ab m fb) :
    Calls Yba.prog 8 #[.slice aa n ca, .slice ab m cb] w (LevPost (D fa fb n m) w) := by
  have hbd := mul_bd hn hm
  obtain ⟨N, hN⟩ : ∃ N, N = (n + 1) * (m + 1) := ⟨_, rfl⟩
  have hN1 : ((n : Int) + 1) * ((m : Int) + 1) = (N : Int) := by rw [hN]; simp
  have hmk := run_make_row' (P := Yba.prog) 33 3 (.int .i64 0) 8 Yba.underlying33 Yba.info3 rfl .i64 .i64 N (by omega) (by omega)
  have st := Tab.start w n m
  rw [← hN] at hbd
  have st' : Tab w (w.alloc (.cells (madeCells #[.int .i64 0] N) 3)) n m (fun _ => 0) := by rw [hN]; exact st
  have HN : Hid (N = (n + 1) * (m + 1)) := hN
  have hbd' : (N : Int) ≤ 263169 := by omega
  clear hN st hbd
  go_enter Yba.func8, Yba.ntmps8
  go_wp2
  clear hmk hN1
  go_loopg [9] (n + 1) (fun g i wr => ∃ (k : Nat) (F : Nat → Int), k ≤ n + 1 ∧ g = n + 1 - k ∧ i = .int .i64 k ∧ Tab w wr n m F ∧ Filled fa fb m k 0 F)
  case atStart => exact ⟨0, _, Nat.zero_le _, rfl, rfl, st', Filled.zero _ _ _ _⟩
  case round =>
    obtain ⟨i, F, hi, rfl, rfl, hT, hF⟩ := hrel
    clear st'
    by_cases hlt : i < n + 1
    · go_wp2
      clear ‹i ≤ n›
      go_loopg [10] (m + 1) (fun g i' wr => ∃ (k : Nat) (F : Nat → Int), k ≤ m + 1 ∧ g = m + 1 - k ∧ i' = .int .i64 k ∧ Tab w wr n m F ∧ Filled fa fb m i k F)
      case atStart => exact ⟨0, _, Nat.zero_le _, rfl, rfl, hT, hF⟩
      case round =>
        clear hT hF
        obtain ⟨j, F, hj, rfl, rfl, hT, hF⟩ := hrel
        by_cases hjl : j < m + 1
        · have hN := HN.out
          rcases i with _ | i
          · have hp : j < N := by have := mul_lt (n := n) (m := m) (i := 0) (by omega); omega
            have k1 := hT.row.cell (i := j) (by rw [← hN]; exact hp)
            have k2 := hT.row.frozen j
            have hp' : (j : Int) < (N : Int) := by omega
            have HT := hT.set j j
            have hF' := hF.step (t := j) (v := j) (by omega) (by omega) (by rw [D_zero])
            clear hT hN
            go_wp2
            go_roundg (m + 1 - (j + 1))
            case measure => omega
            case rel => exact ⟨j + 1, _, by omega, rfl, by go_num, HT, hF'⟩
          · obtain ⟨R, hR⟩ : ∃ R, R = i * (m + 1) := ⟨_, rfl⟩
            have R1 : (i : Int) * ((m : Int) + 1) = (R : Int) := by rw [hR]; simp
            have R2 : ((i : Int) + 1) * ((m : Int) + 1) = (R : Int) + (m : Int) + 1 := by rw [Int.add_mul, R1]; omega
            have hR2 : (i + 1) * (m + 1) = R + m + 1 := by rw [Nat.add_mul, ← hR]; omega
            have hp : R + m + 1 + m < N := by have := mul_lt (n := n) (m := m) (i := i + 1) (by omega); omega
            have i0 : (((i + 1 : Nat) : Int) == 0) = false := by simp; omega
            rcases j with _ | j
            · have k1 := hT.row.cell (i := R + m + 1) (by rw [← hN]; omega)
              have k2 := hT.row.frozen (R + m + 1)
              have HT := hT.set (R + m + 1) ((i : Int) + 1)
              have hF' := hF.step (t := R + m + 1) (v := (i : Int) + 1) (by omega) (by omega) (by rw [D_left]; omega)
              have hp' : (R : Int) + (m : Int) + 1 < (N : Int) := by omega
              clear hT hN hR hR2 R1
              go_wp2
              go_roundg (m + 1 - (0 + 1))
              case measure => omega
              case rel => exact ⟨0 + 1, _, by omega, rfl, by go_num, HT, hF'⟩
            · have j0 : (((j + 1 : Nat) : Int) == 0) = false := by simp; omega
              have ha' := ha
              have hb' := hb
              obtain ⟨b1, o1, hb1, hc1⟩ := ha'
              obtain ⟨b2, o2, hb2, hc2⟩ := hb'
              obtain rfl := hb1 (by omega)
              obtain rfl := hb2 (by omega)
              have q1 : wr.cell? ⟨b1, o1 + i, none⟩ = some (.int .i32 (fa i)) := by
                rw [hT.below.cell (p := ⟨b1, o1 + i, none⟩) (World.block_lt_of_cell? _ _ (hc1 i (by omega)))]; exact hc1 i (by omega)
              have q2 : wr.cell? ⟨b2, o2 + j, none⟩ = some (.int .i32 (fb j)) := by
                rw [hT.below.cell (p := ⟨b2, o2 + j, none⟩) (World.block_lt_of_cell? _ _ (hc2 j (by omega)))]; exact hc2 j (by omega)
              have k1 := hT.row.cell (i := R + j) (by rw [← hN]; omega)
              have k2 := hT.row.cell (i := R + (j + 1)) (by rw [← hN]; omega)
              have k3 := hT.row.cell (i := R + m + 1 + j) (by rw [← hN]; omega)
              have k4 := hT.row.cell (i := R + m + 1 + (j + 1)) (by rw [← hN]; omega)
              have k5 := hT.row.frozen (R + m + 1 + (j + 1))
              have e1 : F (R + j) = (D fa fb i j : Nat) := by rw [hR]; exact hF i j (by omega) (.inl (by omega))
              have e2 : F (R + (j + 1)) = (D fa fb i (j + 1) : Nat) := by rw [hR]; exact hF i (j + 1) (by omega) (.inl (by omega))
              have e3 : F (R + m + 1 + j) = (D fa fb (i + 1) j : Nat) := by rw [← hR2]; exact hF (i + 1) j (by omega) (.inr ⟨rfl, by omega⟩)
              have l1 := D_le fa fb i j
              have l2 := D_le fa fb i (j + 1)
              have l3 := D_le fa fb (i + 1) j
              have m1 : 0 ≤ F (R + j) ∧ F (R + j) ≤ 2000 := by omega
              have m2 : 0 ≤ F (R + (j + 1)) ∧ F (R + (j + 1)) ≤ 2000 := by omega
              have m3 : 0 ≤ F (R + m + 1 + j) ∧ F (R + m + 1 + j) ≤ 2000 := by omega
              have ds := D_step fa fb i j
              have HT := fun q v => (hT.drewN q).set (R + m + 1 + (j + 1)) v
              have hF' : ∀ v : Int, v = (D fa fb (i + 1) (j + 1) : Nat) → Filled fa fb m (i + 1) (j + 1 + 1) (fun s => if s = R + m + 1 + (j + 1) then v else F s) := fun v hv => hF.step (by omega) (by omega) hv
              have p1 : (i : Int) < (n : Int) := by omega
              have p2 : (j : Int) < (m : Int) := by omega
              have p3 : (R : Int) + (j : Int) < (N : Int) := by omega
              have p4 : (R : Int) + ((j : Int) + 1) < (N : Int) := by omega
              have p5 : (R : Int) + (m : Int) + 1 + (j : Int) < (N : Int) := by omega
              have p6 : (R : Int) + (m : Int) + 1 + ((j : Int) + 1) < (N : Int) := by omega
              by_cases he : fa i = fb j
              · have hne : (fa i != fb j) = false := by simp [he]
                rw [if_pos he] at ds
                have HD : Hid (F (R + m + 1 + j) = (D fa fb (i + 1) j : Nat) ∧ F (R + j) = (D fa fb i j : Nat) ∧ F (R + (j + 1)) = (D fa fb i (j + 1) : Nat) ∧ (D fa fb (i + 1) (j + 1) = min (min (D fa fb i j + 0) (D fa fb i (j + 1) + 1)) (D fa fb (i + 1) j + 1)) ∧ ∀ v : Int, v = (D fa fb (i + 1) (j + 1) : Nat) → Filled fa fb m (i + 1) (j + 1 + 1) (fun s => if s = R + m + 1 + (j + 1) then v else F s)) := ⟨e3, e1, e2, ds, hF'⟩
                clear hF hF' e1 e2 e3 l1 l2 l3 hc1 hc2 hb1 hb2 ha hb hT ds he hN hR hR2
                go_wp2
                go_quiet (fail)
                clear p1 p2 q1 q2 hne
                go_wp2
                all_goals
                  obtain ⟨v1, v2, v3, v4, v5⟩ := HD.out
                  go_roundg (m + 1 - (j + 1 + 1))
                  case measure => omega
                  case rel => exact ⟨j + 1 + 1, _, by omega, rfl, by go_num, HT _ _, v5 _ (by omega)⟩
              · have hne : (fa i != fb j) = true := by simp [he]
                rw [if_neg he] at ds
                have HD : Hid (F (R + m + 1 + j) = (D fa fb (i + 1) j : Nat) ∧ F (R + j) = (D fa fb i j : Nat) ∧ F (R + (j + 1)) = (D fa fb i (j + 1) : Nat) ∧ (D fa fb (i + 1) (j + 1) = min (min (D fa fb i j + 1) (D fa fb i (j + 1) + 1)) (D fa fb (i + 1) j + 1)) ∧ ∀ v : Int, v = (D fa fb (i + 1) (j + 1) : Nat) → Filled fa fb m (i + 1) (j + 1 + 1) (fun s => if s = R + m + 1 + (j + 1) then v else F s)) := ⟨e3, e1, e2, ds, hF'⟩
                clear hF hF' e1 e2 e3 l1 l2 l3 hc1 hc2 hb1 hb2 ha hb hT ds he hN hR hR2
                go_wp2
                go_quiet (fail)
                clear p1 p2 q1 q2 hne
                go_wp2
                all_goals
                  obtain ⟨v1, v2, v3, v4, v5⟩ := HD.out
                  go_roundg (m + 1 - (j + 1 + 1))
                  case measure => omega
                  case rel => exact ⟨j + 1 + 1, _, by omega, rfl, by go_num, HT _ _, v5 _ (by omega)⟩
        · obtain rfl : j = m + 1 := by omega
          go_wp2
          go_roundg (n + 1 - (i + 1))
          case measure => omega
          case rel => exact ⟨i + 1, F, by omega, rfl, by go_num, hT, hF.row⟩
    · obtain rfl : i = n + 1 := by omega
      have R1 : ((n : Int)) * ((m : Int) + 1) = ((n * (m + 1) : Nat) : Int) := by simp
      obtain ⟨R, hR⟩ : ∃ R, R = n * (m + 1) := ⟨_, rfl⟩
      rw [← hR] at R1
      have hN := HN.out
      have hRN : N = R + m + 1 := by rw [hN, hR, Nat.add_mul]; omega
      have k1 := hT.row.cell (i := R + m) (by rw [← hN]; omega)
      have E1 : Hid (F (R + m) = (D fa fb n m : Nat)) := by rw [hR]; exact hF n m (Nat.le_refl _) (.inl (by omega))
      have hRN' : (R : Int) + (m : Int) < (N : Int) := by omega
      clear hRN hF hR hN
      go_wp2
      go_ret
      exact ⟨ret_int (by rw [← E1.out]), hT.below⟩
end Go.Proofs.Ybulkbtcm
