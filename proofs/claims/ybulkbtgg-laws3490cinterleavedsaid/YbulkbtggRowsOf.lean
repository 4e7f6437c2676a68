import Derived.Test.YbulkbtggAdd
namespace Go.Proofs.Ybulkbtgg
open Go.RowKit Plain

/-- The row of the i-th room. -/
def rowv (wd : Nat) (cs : List (Nat × Nat)) (j : Nat) : Value := .slice (some ⟨(rm (wd * 4) cs j).1, (rm (wd * 4) cs j).2, none⟩) wd wd
/-- A slice of the chunks 'post'. -/
def Sl (wd : Nat) (w : World) (v : Value) (post : List (Nat × Nat)) : Prop :=
  ∃ ao c, v = .slice ao post.length c ∧ post.length ≤ c ∧ (0 < post.length → ∃ gm off, ao = some ⟨gm, off, none⟩ ∧ ∀ j x, post[j]? = some x → w.cell? ⟨gm, off + j, none⟩ = some (sv wd x))
theorem Sl.below {wd : Nat} {w w' : World} {v : Value} {post : List (Nat × Nat)} (h : Sl wd w v post) (hb : Below w.heap.size w w') : Sl wd w' v post := by
  obtain ⟨ao, c, h1, h2, h3⟩ := h
  refine ⟨ao, c, h1, h2, fun h0 => ?_⟩
  obtain ⟨gm, off, h4, h5⟩ := h3 h0
  exact ⟨gm, off, h4, fun j x hx => bc hb (h5 j x hx)⟩
theorem OwnV.sl {wd : Nat} {w : World} {base : Nat} {v : Value} {post : List (Nat × Nat)} (h : OwnV 24 w base v (post.map (sv wd))) : Sl wd w v post := by
  rcases h.2 with ⟨h1, h2⟩ | ⟨g, cap, cur, hv, hb, hg, hnc, hcm, hcs, htk⟩
  · simp at h2
    exact ⟨none, 0, by rw [h1, h2]; rfl, by simp [h2], fun h => by simp [h2] at h⟩
  · simp only [List.length_map] at hv hnc
    refine ⟨_, _, hv, hnc, fun _ => ⟨g, 0, rfl, fun j x hx => ?_⟩⟩
    obtain ⟨g', e1, e2⟩ := OwnV.cell (E := 24) (a := some ⟨g, 0, none⟩) (by rw [← hv]; exact h) j (sv wd x) (by simp [hx])
    simp at e1
    subst e1
    simpa using e2

def RPost (wd k : Nat) (cs : List (Nat × Nat)) (w : World) (e : Ending) (w' : World) : Prop :=
  ∃ v, e = .returned v ∧ Below w.heap.size w w' ∧ ((k = 0 ∧ v = .slice none 0 0) ∨ (0 < k ∧ ∃ B, v = .slice (some ⟨B, 0, none⟩) k k ∧ w'.rowIs B 24 k (rowv wd cs)))

/-- How far rows has come: i rows are laid, the rest of the chunk and the chunks behind it. -/
structure Wk (wd : Nat) (cs : List (Nat × Nat)) (i : Nat) (w : World) (v4 v5 : Value) (pre : List (Nat × Nat)) (g s o : Nat) (post : List (Nat × Nat)) (ao : Option Addr) : Prop where
  split : cs = pre ++ (g, s) :: post
  at_ : i = tot pre + o
  le : o ≤ s
  ch : v4 = .slice ao ((s - o) * wd) ((s - o) * wd)
  ad : o < s → ao = some ⟨g, o * (wd * 4), none⟩
  more : Sl wd w v5 post

set_option maxHeartbeats 1000000 in
theorem rows_any (w : World) (R base wd k : Nat) (cs : List (Nat × Nat)) (mv rv : Value) (hwd : 0 < wd ∧ wd < 8) (hk1 : k ≤ 1024) (h : Rs w R base wd k cs mv rv) :
    Calls Yba.prog 8 #[.pointer (some ⟨R, 0, none⟩)] w (RPost wd k cs w) := by
  by_cases hk0 : k = 0
  · have c4 := h.rc.c4
    subst hk0
    clear h
    go_enter Yba.func8, Yba.ntmps8
    go_wp2
    go_ret
    exact ⟨_, rfl, Below.refl _ _, .inl ⟨rfl, rfl⟩⟩
  · have hkt : k ≤ tot cs := by
      rcases h.free with ⟨rfl, rfl, _⟩ | ⟨pre, g, s, o, ad, rfl, hk, ho, _, _⟩
      · omega
      · rw [tot_append]; simp [tot]; omega
    cases cs with
    | nil => simp [tot] at hkt; omega
    | cons c r =>
      obtain ⟨g0, s0⟩ := c
      have hsl := h.own.sl
      simp only [List.tail_cons] at hsl
      have hall := h.pos
      have hmk := run_make_row' (P := Yba.prog) 25 24 (.slice none 0 0) 24 Yba.underlying25 Yba.info24 rfl .i64 .i64 k (by omega) (by omega)
      obtain ⟨W0, hW0⟩ : ∃ W0, W0 = w.alloc (.cells (madeCells #[.slice none 0 0] k) 24) := ⟨_, rfl⟩
      have hbW : Below w.heap.size w W0 := by rw [hW0]; exact (Below.refl _ _).alloc (Nat.le_refl _) _
      have hrow : W0.rowIs w.heap.size 24 k (fun _ => .slice none 0 0) := by rw [hW0]; exact World.rowIs_made w _ _ 24
      have hrc := h.rc.below (hbW.mono h.rc.size)
      have c4 := h.rc.c4
      have d1 : W0.cell? ⟨R, 1, none⟩ = some (.slice (some ⟨g0, 0, none⟩) (s0 * wd) (s0 * wd)) := hrc.c1
      have d2 := hrc.c2
      have hRB : R < w.heap.size := Nat.lt_of_lt_of_le h.rc.lt h.rc.size
      have c0 := h.rc.c0
      obtain ⟨ma, mc, rfl, hmc, _⟩ := id hsl
      have hk63 : (k : Int) ≤ 1024 := by omega
      have hkb : ((k : Int) == 0) = false := by simp; omega
      clear h hrc
      go_enter Yba.func8, Yba.ntmps8
      go_upto_region 4 with fail
      rw [← hW0]
      clear hmk hW0 c4
      go_quiet (fail)
      go_wp2
      clear d1 d2
      go_loopg [4, 5, 27] k (fun gg v4 v5 vi wr => ∃ (i : Nat) (pre : List (Nat × Nat)) (g s o : Nat) (post : List (Nat × Nat)) (ao : Option Addr), i ≤ k ∧ gg = k - i ∧ vi = .int .i64 (i : Int) ∧ Wk wd ((g0, s0) :: r) i w v4 v5 pre g s o post ao ∧ Below w.heap.size w wr ∧ wr.rowIs w.heap.size 24 k (fun j => if j < i then rowv wd ((g0, s0) :: r) j else .slice none 0 0))
      case atStart => exact ⟨0, [], g0, s0, 0, r, some ⟨g0, 0, none⟩, by omega, rfl, rfl, ⟨rfl, rfl, by omega, by simp, fun _ => by simp, hsl⟩, hbW.trans ⟨rfl, rfl, rfl, Nat.le_refl _, fun _ _ => rfl⟩, hrow.congr (fun j _ => by simp)⟩
      case round =>
        clear hrow hbW
        obtain ⟨i, pre, g, s, o, post, ao, hi, rfl, rfl, hW, hbr, hrow⟩ := hrel
        by_cases hik : i < k
        · have e0 := bc hbr c0
          have hch := hW.ch
          subst hch
          obtain ⟨ma', mc', hm5, hmc', hm3⟩ := id hW.more
          subst hm5
          have HWk : Hid (Wk wd ((g0, s0) :: r) i w (.slice ao ((s - o) * wd) ((s - o) * wd)) (.slice ma' post.length mc') pre g s o post ao) := hW
          obtain ⟨N, hN⟩ : ∃ N, (s - o) * wd = N := ⟨_, rfl⟩
          rw [hN]
          have HN : Hid ((s - o) * wd = N) := hN
          have hle := hW.le
          clear hW hN
          go_upto_region 8 with fail
          go_cut [36] (fun v wx => v = .bool (decide (o = s)) ∧ wr = wx)
          case first =>
            by_cases e : o = s
            · have HD : Hid (decide (o = s) = true) := by show _ = _; simp [e]
              have hN0 : N = 0 := by rw [← HN.out, e]; simp
              clear e
              go_wp2
              go_meet
              exact ⟨congrArg Value.bool HD.out.symm, rfl⟩
            · have HD : Hid (decide (o = s) = false) := by show _ = _; simp [e]
              have hN0 : wd ≤ N := by rw [← HN.out]; exact Nat.le_mul_of_pos_left _ (by omega)
              clear e
              go_wp2
              go_meet
              exact ⟨congrArg Value.bool (by rw [HD.out]; simpa using hN0), rfl⟩
          case rest =>
            obtain ⟨rfl, rfl⟩ := hcut
            go_upto_if 36 with fail
            go_cut [4, 5] (fun v4 v5 wx => ∃ (pre : List (Nat × Nat)) (g s o : Nat) (post : List (Nat × Nat)) (ao : Option Addr), o < s ∧ Wk wd ((g0, s0) :: r) i w v4 v5 pre g s o post ao ∧ Below wr.heap.size wr wx)
            case first =>
              by_cases e : o = s
              · have hd : decide (o = s) = true := by simp [e]
                rw [hd]
                clear hd
                subst e
                have hN0 : N = 0 := by rw [← HN.out]; simp
                have hw := HWk.out
                rcases post with _ | ⟨⟨g', s'⟩, post'⟩
                · exfalso
                  have h1 := hw.split
                  have h2 := hw.at_
                  rw [h1, tot_append] at hkt
                  simp [tot] at hkt
                  omega
                · obtain ⟨gm, off, rfl, hcs⟩ := hm3 (by simp)
                  have q0 := bc hbr (hcs 0 (g', s') rfl)
                  simp only [Nat.add_zero, sv] at q0
                  have HC : ∀ am c', (1 < mc' → am = some ⟨gm, off + 1, none⟩) → c' = mc' - 1 → Wk wd ((g0, s0) :: r) i w (.slice (some ⟨g', 0, none⟩) (s' * wd) (s' * wd)) (.slice am post'.length c') (pre ++ [(g, o)]) g' s' 0 post' (some ⟨g', 0, none⟩) := fun am c' h1 h2 => by
                    refine ⟨by rw [hw.split]; simp, by rw [hw.at_, tot_append]; simp [tot], by omega, by simp, fun _ => by simp, _, _, rfl, by simp at hmc'; omega, fun h0 => ⟨gm, off + 1, h1 (by simp at hmc'; omega), fun j x hx => ?_⟩⟩
                    have := hcs (j + 1) x (by simpa using hx)
                    rw [show off + 1 + j = off + (j + 1) by omega]
                    exact this
                  have hs' : 0 < s' := by
                    have := hall (g', s') (by rw [hw.split]; simp)
                    exact this
                  simp only [List.length_cons] at hmc' ⊢
                  by_cases hm1 : mc' = 1
                  · have HD : Hid (Wk wd ((g0, s0) :: r) i w (.slice (some ⟨g', 0, none⟩) (s' * wd) (s' * wd)) (.slice (some ⟨gm, off, none⟩) 0 0) (pre ++ [(g, o)]) g' s' 0 post' (some ⟨g', 0, none⟩)) := by have := HC (some ⟨gm, off, none⟩) 0 (fun h => by omega) (by omega); rw [show post'.length = 0 by omega] at this; exact this
                    subst hm1
                    clear hw hcs hm3 HC
                    go_upto_region 9 with fail
                    go_quiet (fail)
                    go_wp2
                    go_meet
                    exact ⟨pre ++ [(g, o)], g', s', 0, post', _, hs', HD.out, ⟨rfl, rfl, rfl, Nat.le_refl _, fun _ _ => rfl⟩⟩
                  · have HD : Hid (Wk wd ((g0, s0) :: r) i w (.slice (some ⟨g', 0, none⟩) (s' * wd) (s' * wd)) (.slice (some ⟨gm, off + 1, none⟩) post'.length (mc' - 1)) (pre ++ [(g, o)]) g' s' 0 post' (some ⟨g', 0, none⟩)) := HC _ _ (fun h => rfl) rfl
                    clear hw hcs hm3 HC
                    go_upto_region 9 with fail
                    go_quiet (fail)
                    go_wp2
                    go_meet
                    exact ⟨pre ++ [(g, o)], g', s', 0, post', _, hs', HD.out, ⟨rfl, rfl, rfl, Nat.le_refl _, fun _ _ => rfl⟩⟩
              · have hd : decide (o = s) = false := by simp [e]
                rw [hd]
                clear hd
                go_wp2
                go_meet
                have hw := HWk.out
                rw [HN.out] at hw
                exact ⟨pre, g, s, o, post, ao, by omega, hw, Below.refl _ _⟩
            case rest =>
              clear hmc' hm3 HN hle e0
              obtain ⟨pre', g', s', o', post', ao', ho, hW2, hb2⟩ := hcut
              have hch := hW2.ch
              have hao := hW2.ad ho
              subst hao
              subst hch
              obtain ⟨N', hN'⟩ : ∃ N', (s' - o') * wd = N' := ⟨_, rfl⟩
              obtain ⟨q', hq'⟩ : ∃ q', o' * (wd * 4) = q' := ⟨_, rfl⟩
              have hNw : wd ≤ N' := by rw [← hN']; exact Nat.le_mul_of_pos_left _ (by omega)
              have hN2 : (s' - (o' + 1)) * wd = N' - wd := by rw [← hN', show s' - (o' + 1) = s' - o' - 1 by omega, Nat.sub_mul, Nat.one_mul]
              rw [hN', hq']
              have e0 := bc (past hbr hb2) c0
              have hrow2 : wc.rowIs w.heap.size 24 k (fun j => if j < i then rowv wd ((g0, s0) :: r) j else .slice none 0 0) := hrow.of_block (hb2.block _ hrow.lt)
              have k1 := hrow2.cell hik
              have k2 := hrow2.frozen i
              have hrv : rowv wd ((g0, s0) :: r) i = .slice (some ⟨g', q', none⟩) wd wd := by
                unfold rowv
                rw [hW2.split, hW2.at_, rm_at (wd * 4) pre' post' g' s' o' ho, hq']
              have hrow3 : (wc.setCell ⟨w.heap.size, i, none⟩ (.slice (some ⟨g', q', none⟩) wd wd)).rowIs w.heap.size 24 k (fun j => if j < i + 1 then rowv wd ((g0, s0) :: r) j else .slice none 0 0) :=
                (hrow2.set i _).congr (fun j _ => by
                  by_cases e : j = i
                  · subst e; simp [hrv]
                  · simp only [e, if_false]
                    by_cases e2 : j < i
                    · simp [e2, show j < i + 1 by omega]
                    · simp [e2, show ¬ j < i + 1 by omega])
              have hbf : Below w.heap.size w (wc.setCell ⟨w.heap.size, i, none⟩ (.slice (some ⟨g', q', none⟩) wd wd)) := (past hbr hb2).setCell (Nat.le_refl _) _
              have HC : ∀ am, (wd < N' → am = some ⟨g', q' + wd * 4, none⟩) → Wk wd ((g0, s0) :: r) (i + 1) w (.slice am (N' - wd) (N' - wd)) u5 pre' g' s' (o' + 1) post' am := fun am ham => by
                refine ⟨hW2.split, by rw [hW2.at_]; omega, by omega, by rw [hN2], fun hlt => ?_, hW2.more⟩
                have : 2 * wd ≤ N' := by rw [← hN']; exact Nat.mul_le_mul_right _ (by omega)
                rw [ham (by omega), ← hq', Nat.add_mul, Nat.one_mul]
              clear hrow hrow2 hW2 hrv hN' hq' hN2 HWk hkt hall hsl
              by_cases hNe : N' = wd
              · subst hNe
                have HD : Hid (Wk N' ((g0, s0) :: r) (i + 1) w (.slice (some ⟨g', q', none⟩) 0 0) u5 pre' g' s' (o' + 1) post' (some ⟨g', q', none⟩)) := by
                  have := HC (some ⟨g', q', none⟩) (fun h => by omega)
                  rw [Nat.sub_self] at this
                  exact this
                clear HC
                go_upto_region 10 with fail
                go_big_region
                go_wp2
                go_roundg (k - (i + 1))
                case measure => omega
                case rel => exact ⟨i + 1, pre', g', s', o' + 1, post', _, by omega, rfl, by go_num, HD.out, ⟨hbf.os, hbf.tape, hbf.output, hbf.size, hbf.block⟩, hrow3⟩
              · have HD : Hid (Wk wd ((g0, s0) :: r) (i + 1) w (.slice (some ⟨g', q' + wd * 4, none⟩) (N' - wd) (N' - wd)) u5 pre' g' s' (o' + 1) post' (some ⟨g', q' + wd * 4, none⟩)) := HC _ (fun _ => rfl)
                clear HC
                go_upto_region 10 with fail
                go_big_region
                go_wp2
                go_roundg (k - (i + 1))
                case measure => omega
                case rel => exact ⟨i + 1, pre', g', s', o' + 1, post', _, by omega, rfl, by go_num, HD.out, ⟨hbf.os, hbf.tape, hbf.output, hbf.size, hbf.block⟩, hrow3⟩
        · obtain rfl : i = k := by omega
          go_wp2
          go_ret
          exact ⟨_, rfl, hbr, .inr ⟨by omega, _, rfl, hrow.congr (fun j hj => by simp [hj])⟩⟩
end Go.Proofs.Ybulkbtgg
