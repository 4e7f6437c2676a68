import Derived.Test.YbulkbtecRoad1
import Derived.Deep.CutBlock
namespace Go.Proofs.Ybulkbtec
open Go.RowKit Plain

theorem Lst.setFar {w : World} {base Bc Bl Bs : Nat} {stop : Int} {L : List (ByteArray × Int × Int)} {v : Value} (h : Lst w base Bc Bl Bs stop L v) {Bn j : Nat} (u : Value) (n1 : Bn ≠ Bc) (n2 : Bn ≠ Bl) (n3 : Bn ≠ Bs) (hv : v.ownBlock ≠ some Bn) : Lst (w.setCell ⟨Bn, j, none⟩ u) base Bc Bl Bs stop L v :=
  ⟨by rw [World.cell?_of_block (w := w) (Below.heap_setCell _ _ _ _ (fun e => n1 e.symm))]; exact h.c, by rw [World.frozen?_setCell]; exact h.fc,
   by rw [World.cell?_of_block (w := w) (Below.heap_setCell _ _ _ _ (fun e => n2 e.symm))]; exact h.l, by rw [World.frozen?_setCell]; exact h.fl,
   by rw [World.cell?_of_block (w := w) (Below.heap_setCell _ _ _ _ (fun e => n3 e.symm))]; exact h.s,
   World.ownsRow.kept h.own (row := some Bn) ⟨rfl, rfl, rfl, by simp, fun k _ hk => Below.heap_setCell _ _ _ _ (fun e => hk (by rw [e]))⟩ (.inr hv), by simpa using h.size⟩

theorem Far.set {w W : World} {base Bc Bl Bs : Nat} {stop : Int} {L : List (ByteArray × Int × Int)} {v : Value} (h : Kp base Bc Bl w W ∧ Lst W base Bc Bl Bs stop L v) {Bn : Nat} (hB : base ≤ Bn) (hcl : Bc < base) (hll : Bl < base) (hsl : Bs < base) (hv : v.ownBlock ≠ some Bn) (j : Nat) (u : Value) :
    Kp base Bc Bl w (W.setCell ⟨Bn, j, none⟩ u) ∧ Lst (W.setCell ⟨Bn, j, none⟩ u) base Bc Bl Bs stop L v :=
  ⟨h.1.trans ⟨rfl, rfl, rfl, by simp, fun k h1 _ _ => Below.heap_setCell _ _ _ _ (by simp only; omega)⟩, h.2.setFar u (by omega) (by omega) (by omega) hv⟩

theorem Far.later {w W W' : World} {base Bc Bl Bs : Nat} {stop : Int} {L : List (ByteArray × Int × Int)} {v : Value} (h : Kp base Bc Bl w W ∧ Lst W base Bc Bl Bs stop L v) (hb : Below W.heap.size W W') :
    Kp base Bc Bl w W' ∧ Lst W' base Bc Bl Bs stop L v := ⟨h.1.trans (Kp.of_below (hb.mono h.2.size)), h.2.later hb⟩
theorem bcs {W w' : World} {a p : Addr} {u v : Value} (hb : Below W.heap.size W w') (hn : a.block ≠ p.block) (h : W.cell? a = some v) : (w'.setCell p u).cell? a = some v :=
  (World.cell?_setCell_far _ _ _ _ (fun e => hn e.symm)).trans (bc hb h)
theorem bcs2 {W w' : World} {a p q : Addr} {u x v : Value} (hb : Below W.heap.size W w') (hn : a.block ≠ p.block) (hm : a.block ≠ q.block) (h : W.cell? a = some v) : ((w'.setCell p u).setCell q x).cell? a = some v :=
  (World.cell?_setCell_far _ _ _ _ (fun e => hm e.symm)).trans (bcs hb hn h)

theorem take1 {b c : Nat → Bool} {xs xt : Nat → Int} {K : Nat} (hK : K ≤ 10) (h : nxt b K < nxt c K) :
    expL b c xs xt (nxt b K + 1) = expL b c xs xt K ++ [(nm (nxt b K), xs (rank b K), 0)] ∧ rank b (nxt b K + 1) = rank b K + 1 ∧ rank c (nxt b K + 1) = rank c K := by
  have hle := nxt_le (b := c) hK
  have hge := nxt_ge b K
  have hb : b (nxt b K) = true := nxt_yes (by omega)
  have hc : c (nxt b K) = false := nxt_no hge h
  refine ⟨?_, by rw [rank_yes hb, rank_nxt], by rw [rank_no hc]; exact rank_same _ hge (fun k h1 h2 => nxt_no h1 (by omega))⟩
  rw [expL_next hge (fun i h1 h2 => nxt_no h1 h2) (fun i h1 h2 => nxt_no h1 (by omega)) (by rw [hb]; rfl)]
  simp [ent, ek, hb, hc, rank_nxt]
theorem take2 {b c : Nat → Bool} {xs xt : Nat → Int} {K : Nat} (hK : K ≤ 10) (h : nxt c K < nxt b K) :
    expL b c xs xt (nxt c K + 1) = expL b c xs xt K ++ [(nm (nxt c K), 0, xt (rank c K))] ∧ rank b (nxt c K + 1) = rank b K ∧ rank c (nxt c K + 1) = rank c K + 1 := by
  have hle := nxt_le (b := b) hK
  have hge := nxt_ge c K
  have hc : c (nxt c K) = true := nxt_yes (by omega)
  have hb : b (nxt c K) = false := nxt_no hge h
  refine ⟨?_, by rw [rank_no hb]; exact rank_same _ hge (fun k h1 h2 => nxt_no h1 (by omega)), by rw [rank_yes hc, rank_nxt]⟩
  rw [expL_next hge (fun i h1 h2 => nxt_no h1 (by omega)) (fun i h1 h2 => nxt_no h1 h2) (by rw [hc]; simp)]
  simp [ent, ek, hb, hc, rank_nxt]
theorem take3 {b c : Nat → Bool} {xs xt : Nat → Int} {K : Nat} (h1 : nxt b K < 10) (h : nxt c K = nxt b K) :
    expL b c xs xt (nxt b K + 1) = expL b c xs xt K ++ [(nm (nxt b K), xs (rank b K), xt (rank c K))] ∧ rank b (nxt b K + 1) = rank b K + 1 ∧ rank c (nxt b K + 1) = rank c K + 1 := by
  have hge := nxt_ge b K
  have hb : b (nxt b K) = true := nxt_yes h1
  have hc : c (nxt b K) = true := by rw [← h]; exact nxt_yes (by omega)
  have hr : rank c (nxt b K) = rank c K := by rw [← h, rank_nxt]
  refine ⟨?_, by rw [rank_yes hb, rank_nxt], by rw [rank_yes hc, hr]⟩
  rw [expL_next hge (fun i h1 h2 => nxt_no h1 h2) (fun i h1 h2 => nxt_no h1 (by omega)) (by rw [hb]; rfl)]
  simp [ent, ek, hb, hc, rank_nxt, hr]

set_option maxHeartbeats 2000000 in
set_option maxRecDepth 100000 in
theorem road2 (V0 w : World) (b1 b2 base Bc Bl Bs : Nat) (t1 t2 : ByteArray) (v1 v2 c1 c2 : Value) (b c : Nat → Bool) (xs xt : Nat → Int) (stop : Int) (v : Value) (hx : Ctx V0 w b1 b2 base Bc Bl t1 t2 v1 v2 c1 c2 b c xs xt)
    (hcl : Bc < base) (hll : Bl < base) (hsl : Bs < base) (m1 : Bc ≠ Bl) (m2 : Bc ≠ Bs) (m3 : Bl ≠ Bs) (hst : Lst w base Bc Bl Bs stop [] v) (hs : ¬ sameB b c) (hs0 : stop ≤ 0 ∨ ((0 : Nat) : Int) < stop) :
    Calls Yba.prog 9 #[.func (.func 8) #[] #[.pointer (some ⟨Bc, 0, none⟩), .pointer (some ⟨Bl, 0, none⟩), .pointer (some ⟨Bs, 0, none⟩)], .pointer (some ⟨b1, 0, none⟩), .pointer (some ⟨b2, 0, none⟩)] w
      (UPost (expL b c xs xt 10) base Bc Bl Bs stop w) := by
  have hn10 := rank_le b 10
  have hm10 := rank_le c 10
  obtain ⟨a1, d1, rfl⟩ := hx.u1.form
  obtain ⟨a2, d2, rfl⟩ := hx.u2.form
  obtain ⟨n, hn⟩ : ∃ n, rank b 10 = n := ⟨_, rfl⟩
  obtain ⟨m, hm⟩ : ∃ m, rank c 10 = m := ⟨_, rfl⟩
  obtain ⟨h1, h2, u1, u2, p0, p1, p2, p3, q0, q1, q2, q3, nb1, nb2, nm0, hV⟩ := id hx
  rw [hn] at u1 p3 hn10
  rw [hm] at u2 q3 hm10
  have HX : Hid (Ctx V0 w b1 b2 base Bc Bl t1 t2 v1 v2 (.slice a1 n d1) (.slice a2 m d2) b c xs xt) := by rw [hn, hm] at hx; exact hx
  have HN : Hid (rank b 10 = n ∧ rank c 10 = m) := ⟨hn, hm⟩
  clear hx hn hm
  go_enter Yba.func9, Yba.ntmps9
  go_wp2_with fail
  refine (equal_any t1 t2 v1 v2 b c w (h1.later hV) (h2.later hV)).mono ?_
  rintro e w1 ⟨r, rfl, hr, hb1⟩
  obtain rfl : r = false := by cases r with
    | false => rfl
    | true => exact absurd (hr.1 rfl) hs
  clear hr
  have hk1 : Kp base Bc Bl w w1 := Kp.of_below (hb1.mono hst.size)
  have hst1 := hst.later hb1
  clear p0 p1 p2 p3 q0 q1 q2 q3 hst hs
  go_wp2
  go_loopg [6, 7] 10 (fun g vi vj wr => ∃ (K : Nat) (v' : Value), K ≤ 10 ∧ g = 10 - K ∧ vi = .int .i64 (rank b K : Int) ∧ vj = .int .i64 (rank c K : Int) ∧ Hid (stop ≤ 0 ∨ ((expL b c xs xt K).length : Int) < stop) ∧ Kp base Bc Bl w wr ∧ Lst wr base Bc Bl Bs stop (expL b c xs xt K) v')
  case atStart => exact ⟨0, v, by omega, rfl, rfl, rfl, hs0, hk1, hst1⟩
  case round =>
    clear hst1 hk1 hb1
    obtain ⟨K, v', hK, rfl, rfl, rfl, HS, hkp, hst⟩ := hrel
    have hrK := rank_le b K
    have hrK2 := rank_le c K
    have hxr := HX.out.kp hkp
    obtain ⟨_, _, _, _, e0, e1, e2, e3, g0, g1, g2, g3, _, _, _, hVr⟩ := id hxr
    obtain ⟨W9, hW9⟩ : ∃ W9, W9 = wr.alloc (.cells #[.int .u64 0, .int .u64 0] 34) := ⟨_, rfl⟩
    have hb9 : Below wr.heap.size wr W9 := by rw [hW9]; exact (Below.refl _ _).alloc (Nat.le_refl _) _
    have hV9 : Below V0.heap.size V0 W9 := hVr.trans (hb9.mono hVr.size)
    have hs9 : W9.heap.size = wr.heap.size + 1 := by rw [hW9]; simp
    have hrw9 : W9.heap[wr.heap.size]? = some (.cells #[.int .u64 0, .int .u64 0] 34 (0, 0)) := by rw [hW9]; exact heap_alloc_new _ _
    have hne9 := CW.any W9
    have HW9 : Hid (W9 = wr.alloc (.cells #[.int .u64 0, .int .u64 0] 34)) := hW9
    clear hW9
    have E0 : ∀ z : CW W9, z.val.cell? ⟨b1, 0, none⟩ = some (.string t1) := CW.cell (bc hb9 e0)
    have E1 : ∀ z : CW W9, z.val.cell? ⟨b1, 1, none⟩ = some (.int .i64 0) := CW.cell (bc hb9 e1)
    have E2 : ∀ z : CW W9, z.val.cell? ⟨b1, 2, none⟩ = some v1 := CW.cell (bc hb9 e2)
    have E3 : ∀ z : CW W9, z.val.cell? ⟨b1, 3, none⟩ = some (.slice a1 n d1) := CW.cell (bc hb9 e3)
    have G0 : ∀ z : CW W9, z.val.cell? ⟨b2, 0, none⟩ = some (.string t2) := CW.cell (bc hb9 g0)
    have G1 : ∀ z : CW W9, z.val.cell? ⟨b2, 1, none⟩ = some (.int .i64 0) := CW.cell (bc hb9 g1)
    have G2 : ∀ z : CW W9, z.val.cell? ⟨b2, 2, none⟩ = some v2 := CW.cell (bc hb9 g2)
    have G3 : ∀ z : CW W9, z.val.cell? ⟨b2, 3, none⟩ = some (.slice a2 m d2) := CW.cell (bc hb9 g3)
    have hc1 : nxt b K < 10 → ∀ n : CW W9, Calls Yba.prog 11 #[.agg #[.string t1, .int .i64 0, v1], .int .i64 (rank b K : Int)] n.val (fun e w'' => e = .returned (.string (nm (nxt b K))) ∧ ∃ m : CW W9, w'' = m.val) := fun hlt n => by
      have := name_any t1 v1 b (nxt b K) hlt (nxt_yes hlt) n.val ((h1.later hV9).later n.ok)
      rw [rank_nxt] at this
      exact this.mono fun e w' ⟨h, h'⟩ => ⟨h, ⟨w', past n.ok h'⟩, rfl⟩
    have hc2 : nxt c K < 10 → ∀ n : CW W9, Calls Yba.prog 11 #[.agg #[.string t2, .int .i64 0, v2], .int .i64 (rank c K : Int)] n.val (fun e w'' => e = .returned (.string (nm (nxt c K))) ∧ ∃ m : CW W9, w'' = m.val) := fun hlt n => by
      have := name_any t2 v2 c (nxt c K) hlt (nxt_yes hlt) n.val ((h2.later hV9).later n.ok)
      rw [rank_nxt] at this
      exact this.mono fun e w' ⟨h, h'⟩ => ⟨h, ⟨w', past n.ok h'⟩, rfl⟩
    have k1le := nxt_le (b := b) hK
    have k2le := nxt_le (b := c) hK
    have k1ge := nxt_ge b K
    have k2ge := nxt_ge c K
    have hi1 : nxt b K < 10 ↔ rank b K < n := by rw [← HN.out.1]; exact (rank_more hK).symm
    have hj1 : nxt c K < 10 ↔ rank c K < m := by rw [← HN.out.2]; exact (rank_more hK).symm
    have hile : rank b K ≤ n := by rw [← HN.out.1]; exact rank_mono b hK
    have hjle : rank c K ≤ m := by rw [← HN.out.2]; exact rank_mono c hK
    by_cases hX : nxt b K < 10 ∨ nxt c K < 10
    · have HX2 : Hid (nxt b K < 10 ∨ nxt c K < 10) := hX
      clear hX
      go_upto_region 7 with fail
      go_cut [49] (fun r wx => r = .bool true ∧ wr = wx)
      case first =>
        clear hc1 hc2 E0 E1 E2 E3 G0 G1 G2 G3
        by_cases hl : rank b K < n
        · have t4 : (rank b K : Int) < (n : Int) := by omega
          go_wp2_with fail
          go_meet
          exact ⟨rfl, rfl⟩
        · have t4 : ¬ (rank b K : Int) < (n : Int) := by omega
          have t5 : (rank c K : Int) < (m : Int) := by
            have := hj1.1 (HX2.out.resolve_left (fun h => hl (hi1.1 h)))
            omega
          go_wp2_with fail
          go_meet
          exact ⟨rfl, rfl⟩
      case rest =>
        obtain ⟨rfl, rfl⟩ := hcut
        go_upto_block 4 with fail
        rw [← HW9.out]
        have hown : v'.ownBlock ≠ some wr.heap.size := fun h => by have := (World.ownsRow.lt hst.own _ h).2; omega
        have hbs : base ≤ wr.heap.size := hst.size
        have hmV : V0.heap.size ≤ wr.heap.size := hVr.size
        obtain ⟨Bn, hBn⟩ : ∃ Bn, wr.heap.size = Bn := ⟨_, rfl⟩
        rw [hBn] at hown hbs hmV hs9 hrw9
        rw [hBn]
        have HBn : Hid (wr.heap.size = Bn) := hBn
        clear hBn
        go_cut [6, 7, 8] (fun vi vj vn wx => ∃ (k : Nat) (x y : Int), Hid (K ≤ k ∧ k < 10 ∧ expL b c xs xt (k + 1) = expL b c xs xt K ++ [(nm k, x, y)]) ∧ vi = .int .i64 (rank b (k + 1) : Int) ∧ vj = .int .i64 (rank c (k + 1) : Int) ∧ vn = .string (nm k) ∧ wx.cell? ⟨Bn, 0, none⟩ = some (.int .u64 x) ∧ wx.cell? ⟨Bn, 1, none⟩ = some (.int .u64 y) ∧ Hid (Kp base Bc Bl w wx ∧ Lst wx base Bc Bl Bs stop (expL b c xs xt K) v'))
        case first =>
          go_upto_region 12 with fail
          go_cut [70] (fun r wx => r = .bool (decide (nxt b K < nxt c K)) ∧ Below W9.heap.size W9 wx)
          case first =>
            clear e0 e1 e2 e3 g0 g1 g2 g3
            by_cases hA : nxt c K = 10
            · have hA2 : nxt b K < 10 := by have := HX2.out; omega
              have t3 : ((rank c K : Int) == (m : Int)) = true := by have := hj1; simp; omega
              have hd : decide (nxt b K < nxt c K) = true := by rw [hA]; simpa using hA2
              have HD : Hid (decide (nxt b K < nxt c K) = true) := hd
              clear hd hc2 hc1 hi1 hj1 hA hA2 k1le k2le k1ge k2ge hile hjle
              refine wp_region_cls W9 (by kernel_rfl) (by kernel_rfl) (Below.refl _ _).drew ?_
              repeat (go_big_quiet_step (fail))
              refine wpQuiet_nil ?_
              intro w' hw'
              obtain ⟨⟨w2, hB2⟩, rfl⟩ := hw'
              go_wp2
              go_meet
              exact ⟨congrArg Value.bool HD.out.symm, hB2⟩
            · have hA2 : nxt c K < 10 := by omega
              have t3 : ((rank c K : Int) == (m : Int)) = false := by have := hj1.1 hA2; simp; omega
              have hc2' := hc2 hA2
              by_cases hC : nxt b K < 10
              · have t4 : (rank b K : Int) < (n : Int) := by have := hi1.1 hC; omega
                have hc1' := hc1 hC
                have hlex : Op.bytesLess (nm (nxt b K)).toList (nm (nxt c K)).toList = decide (nxt b K < nxt c K) := nm_less _ _ hC hA2
                clear hc2 hc1 hi1 hj1 hA hA2 hC k1le k2le k1ge k2ge hile hjle
                refine wp_region_cls W9 (by kernel_rfl) (by kernel_rfl) (Below.refl _ _).drew ?_
                repeat (go_big_quiet_step (first | with_reducible exact hc1' _ | with_reducible exact hc2' _))
                refine wpQuiet_nil ?_
                intro w' hw'
                obtain ⟨⟨w2, hB2⟩, rfl⟩ := hw'
                go_wp2
                go_meet
                exact ⟨rfl, hB2⟩
              · have t4 : ¬ (rank b K : Int) < (n : Int) := by have := hi1; omega
                have hd : decide (nxt b K < nxt c K) = false := by simp; omega
                have HD : Hid (decide (nxt b K < nxt c K) = false) := hd
                clear hd hc2 hc1 hi1 hj1 hA hA2 hC hc2' k1le k2le k1ge k2ge hile hjle
                refine wp_region_cls W9 (by kernel_rfl) (by kernel_rfl) (Below.refl _ _).drew ?_
                repeat (go_big_quiet_step (fail))
                refine wpQuiet_nil ?_
                intro w' hw'
                obtain ⟨⟨w2, hB2⟩, rfl⟩ := hw'
                go_wp2
                go_meet
                exact ⟨congrArg Value.bool HD.out.symm, hB2⟩
          case rest =>
            obtain ⟨rfl, hB2⟩ := hcut
            by_cases hlt : nxt b K < nxt c K
            · have hd : decide (nxt b K < nxt c K) = true := by simpa using hlt
              rw [hd]
              clear hd
              clear E0 E1 E2 E3 G0 G1 G2 G3 e0 e1 e2 e3 g0 g1 g2 g3
              have hbw : Below wr.heap.size wr wc := past hb9 hB2
              have HPL : Hid (Kp base Bc Bl w wc ∧ Lst wc base Bc Bl Bs stop (expL b c xs xt K) v') := ⟨hkp.trans (Kp.of_below (hbw.mono hst.size)), hst.later hbw⟩
              have hVc : Below V0.heap.size V0 wc := hVr.trans (hbw.mono hVr.size)
              obtain ⟨_, _, _, _, e0, e1, e2, e3, g0, g1, g2, g3, _, _, _, _⟩ := HX.out.kp HPL.out.1
              have hnr : wc.heap[Bn]? = some (.cells #[.int .u64 0, .int .u64 0] 34 (0, 0)) := (hB2.block _ (by omega)).trans hrw9
              have z0 : wc.cell? ⟨Bn, 0, none⟩ = some (.int .u64 0) := cell_of_row wc Bn 0 _ 34 (0, 0) hnr
              have z1 : wc.cell? ⟨Bn, 1, none⟩ = some (.int .u64 0) := cell_of_row wc Bn 1 _ 34 (0, 0) hnr
              have zf : ∀ j, wc.frozen? ⟨Bn, j, none⟩ = false := fun j => by simp [World.frozen?, hnr]
              have hBnw : Bn < wc.heap.size := by have := hB2.size; omega
              clear hne9 hrw9 hs9 hb9 hV9 HW9 hkp hst hbw hVr hxr hc1 hc2 hnr
              have hk : nxt b K < 10 := by omega
              have HF := take1 (xs := xs) (xt := xt) hK hlt
              obtain ⟨gg, rfl, hcc1⟩ := u1.at (hi1.1 hk)
              have k1 : wc.cell? ⟨gg, rank b K, none⟩ = some (.int .u64 (xs (rank b K))) := (hVc.cell (p := ⟨gg, rank b K, none⟩) (World.block_lt_of_cell? _ _ hcc1)).trans hcc1
              have hg1 : gg ≠ Bn := by have := World.block_lt_of_cell? _ _ hcc1; simp only at this; omega
              have hil1 : rank b K < n := hi1.1 hk
              have hname : ∀ W, Below V0.heap.size V0 W → Calls Yba.prog 11 #[.agg #[.string t1, .int .i64 0, v1], .int .i64 (rank b K : Int)] W (BelPost (.string (nm (nxt b K))) W) := fun W hW => by
                have := name_any t1 v1 b (nxt b K) hk (nxt_yes hk) W (h1.later hW)
                rw [rank_nxt] at this
                exact this
              have HNM : Hid (∀ W, Below V0.heap.size V0 W → Calls Yba.prog 11 #[.agg #[.string t1, .int .i64 0, v1], .int .i64 (rank b K : Int)] W (BelPost (.string (nm (nxt b K))) W)) := hname
              have HG : Hid (K ≤ nxt b K ∧ nxt b K < 10 ∧ expL b c xs xt (nxt b K + 1) = expL b c xs xt K ++ [(nm (nxt b K), xs (rank b K), 0)]) := ⟨k1ge, hk, HF.1⟩
              have HR : Hid (rank b (nxt b K + 1) = rank b K + 1 ∧ rank c (nxt b K + 1) = rank c K) := HF.2
              have hbn : b1 ≠ Bn := by omega
              clear HF hname hcc1 hlt g0 g1 g2 g3 hi1 hj1 k1le k2le k1ge k2ge
              go_wp2
              go_region_held3 (fun w' => w'.cell? ⟨b1, 0, none⟩ = some (.string t1) ∧ w'.cell? ⟨b1, 1, none⟩ = some (.int .i64 0) ∧ w'.cell? ⟨b1, 2, none⟩ = some v1 ∧ w'.cell? ⟨b1, 3, none⟩ = some (.slice (some ⟨gg, 0, none⟩) n d1) ∧ w'.cell? ⟨gg, rank b K, none⟩ = some (.int .u64 (xs (rank b K))))
                (first | go_keep | exact ⟨bc (W := wc.drew) hb3 e0, bc (W := wc.drew) hb3 e1, bc (W := wc.drew) hb3 e2, bc (W := wc.drew) hb3 e3, bc (W := wc.drew) hb3 k1⟩ | exact ⟨bcs (W := wc.drew) hb3 hbn e0, bcs (W := wc.drew) hb3 hbn e1, bcs (W := wc.drew) hb3 hbn e2, bcs (W := wc.drew) hb3 hbn e3, bcs (W := wc.drew) hb3 hg1 k1⟩ | exact ⟨bcs2 (W := wc.drew) hb3 hbn hbn e0, bcs2 (W := wc.drew) hb3 hbn hbn e1, bcs2 (W := wc.drew) hb3 hbn hbn e2, bcs2 (W := wc.drew) hb3 hbn hbn e3, bcs2 (W := wc.drew) hb3 hg1 hg1 k1⟩)
                (first | (go_at_call 11; refine (HNM.out _ ?_).mono ?_; exact hVc.drew; rintro e w3 ⟨rfl, hb3⟩; have y0 := bc (W := wc.drew) hb3 z0; have yf0 := (hb3.frozen (p := ⟨Bn, 0, none⟩) hBnw).trans (zf 0); have y1 := bc (W := wc.drew) hb3 z1; have yf1 := (hb3.frozen (p := ⟨Bn, 1, none⟩) hBnw).trans (zf 1)))
              go_wp2
              go_meet
              exact ⟨nxt b K, _, _, HG, by rw [HR.out.1]; go_num, by rw [HR.out.2], rfl, World.cell?_setCell_same _ _ _ y0, (World.cell?_setCell_other _ _ _ _ (by simp)).trans y1, Far.set (Far.later HPL.out (undrew hb3)) hbs hcl hll hsl hown _ _⟩
            · have hd : decide (nxt b K < nxt c K) = false := by simpa using hlt
              rw [hd]
              clear hd
              go_upto_region 15 with fail
              go_cut [106] (fun r wx => r = .bool (decide (nxt c K < nxt b K)) ∧ Below W9.heap.size W9 wx)
              case first =>
                clear e0 e1 e2 e3 g0 g1 g2 g3
                by_cases hC : nxt b K < 10
                · have hA2 : nxt c K < 10 := by omega
                  have hc1' := hc1 hC
                  have hc2' := hc2 hA2
                  have t3 : ((rank b K : Int) == (n : Int)) = false := by have := hi1.1 hC; simp; omega
                  have hlex : Op.bytesLess (nm (nxt c K)).toList (nm (nxt b K)).toList = decide (nxt c K < nxt b K) := nm_less _ _ hA2 hC
                  clear hc2 hc1 hA2 hC hlt hi1 hj1 k1le k2le k1ge k2ge hile hjle
                  refine wp_region_cls W9 (by kernel_rfl) (by kernel_rfl) hB2.drew ?_
                  repeat (go_big_quiet_step (first | with_reducible exact hc1' _ | with_reducible exact hc2' _))
                  refine wpQuiet_nil ?_
                  intro w' hw'
                  obtain ⟨⟨w2, hB3⟩, rfl⟩ := hw'
                  go_wp2
                  go_meet
                  exact ⟨rfl, hB3⟩
                · have t3 : ((rank b K : Int) == (n : Int)) = true := by have := hi1; simp; omega
                  have HD : Hid (decide (nxt c K < nxt b K) = true) := by have := HX2.out; show _ = _; simp; omega
                  clear hc2 hc1 hC hlt hi1 hj1 k1le k2le k1ge k2ge hile hjle
                  refine wp_region_cls W9 (by kernel_rfl) (by kernel_rfl) hB2.drew ?_
                  repeat (go_big_quiet_step (fail))
                  refine wpQuiet_nil ?_
                  intro w' hw'
                  obtain ⟨⟨w2, hB3⟩, rfl⟩ := hw'
                  go_wp2
                  go_meet
                  exact ⟨congrArg Value.bool HD.out.symm, hB3⟩
              case rest =>
                clear hB2
                obtain ⟨rfl, hB2⟩ := hcut
                clear E0 E1 E2 E3 G0 G1 G2 G3 e0 e1 e2 e3 g0 g1 g2 g3
                have hbw : Below wr.heap.size wr wc := past hb9 hB2
                have HPL : Hid (Kp base Bc Bl w wc ∧ Lst wc base Bc Bl Bs stop (expL b c xs xt K) v') := ⟨hkp.trans (Kp.of_below (hbw.mono hst.size)), hst.later hbw⟩
                have hVc : Below V0.heap.size V0 wc := hVr.trans (hbw.mono hVr.size)
                obtain ⟨_, _, _, _, e0, e1, e2, e3, g0, g1, g2, g3, _, _, _, _⟩ := HX.out.kp HPL.out.1
                have hnr : wc.heap[Bn]? = some (.cells #[.int .u64 0, .int .u64 0] 34 (0, 0)) := (hB2.block _ (by omega)).trans hrw9
                have z0 : wc.cell? ⟨Bn, 0, none⟩ = some (.int .u64 0) := cell_of_row wc Bn 0 _ 34 (0, 0) hnr
                have z1 : wc.cell? ⟨Bn, 1, none⟩ = some (.int .u64 0) := cell_of_row wc Bn 1 _ 34 (0, 0) hnr
                have zf : ∀ j, wc.frozen? ⟨Bn, j, none⟩ = false := fun j => by simp [World.frozen?, hnr]
                have hBnw : Bn < wc.heap.size := by have := hB2.size; omega
                clear hne9 hrw9 hs9 hb9 hV9 HW9 hkp hst hbw hVr hxr hc1 hc2 hnr
                have hnl := hlt
                clear hlt
                by_cases hlt : nxt c K < nxt b K
                · have hd : decide (nxt c K < nxt b K) = true := by simpa using hlt
                  rw [hd]
                  clear hd hnl
                  have hk : nxt c K < 10 := by omega
                  have hk2 := hk
                  have HF := take2 (xs := xs) (xt := xt) hK hlt
                  obtain ⟨gg2, rfl, hcc2⟩ := u2.at (hj1.1 hk2)
                  have k2 : wc.cell? ⟨gg2, rank c K, none⟩ = some (.int .u64 (xt (rank c K))) := (hVc.cell (p := ⟨gg2, rank c K, none⟩) (World.block_lt_of_cell? _ _ hcc2)).trans hcc2
                  have hg2 : gg2 ≠ Bn := by have := World.block_lt_of_cell? _ _ hcc2; simp only at this; omega
                  have hil2 : rank c K < m := hj1.1 hk2
                  have hname : ∀ W, Below V0.heap.size V0 W → Calls Yba.prog 11 #[.agg #[.string t2, .int .i64 0, v2], .int .i64 (rank c K : Int)] W (BelPost (.string (nm (nxt c K))) W) := fun W hW => by
                    have := name_any t2 v2 c (nxt c K) hk (nxt_yes hk) W (h2.later hW)
                    rw [rank_nxt] at this
                    exact this
                  have HNM : Hid (∀ W, Below V0.heap.size V0 W → Calls Yba.prog 11 #[.agg #[.string t2, .int .i64 0, v2], .int .i64 (rank c K : Int)] W (BelPost (.string (nm (nxt c K))) W)) := hname
                  have HG : Hid (K ≤ nxt c K ∧ nxt c K < 10 ∧ expL b c xs xt (nxt c K + 1) = expL b c xs xt K ++ [(nm (nxt c K), 0, xt (rank c K))]) := ⟨k2ge, hk, HF.1⟩
                  have HR : Hid (rank b (nxt c K + 1) = rank b K ∧ rank c (nxt c K + 1) = rank c K + 1) := HF.2
                  have hbn : b2 ≠ Bn := by omega
                  clear HF hname hcc2 hlt e0 e1 e2 e3 hi1 hj1 k1le k2le k1ge k2ge
                  go_wp2
                  go_region_held3 (fun w' => w'.cell? ⟨b2, 0, none⟩ = some (.string t2) ∧ w'.cell? ⟨b2, 1, none⟩ = some (.int .i64 0) ∧ w'.cell? ⟨b2, 2, none⟩ = some v2 ∧ w'.cell? ⟨b2, 3, none⟩ = some (.slice (some ⟨gg2, 0, none⟩) m d2) ∧ w'.cell? ⟨gg2, rank c K, none⟩ = some (.int .u64 (xt (rank c K))))
                    (first | go_keep | exact ⟨bc (W := wc.drew) hb3 g0, bc (W := wc.drew) hb3 g1, bc (W := wc.drew) hb3 g2, bc (W := wc.drew) hb3 g3, bc (W := wc.drew) hb3 k2⟩ | exact ⟨bcs (W := wc.drew) hb3 hbn g0, bcs (W := wc.drew) hb3 hbn g1, bcs (W := wc.drew) hb3 hbn g2, bcs (W := wc.drew) hb3 hbn g3, bcs (W := wc.drew) hb3 hg2 k2⟩ | exact ⟨bcs2 (W := wc.drew) hb3 hbn hbn g0, bcs2 (W := wc.drew) hb3 hbn hbn g1, bcs2 (W := wc.drew) hb3 hbn hbn g2, bcs2 (W := wc.drew) hb3 hbn hbn g3, bcs2 (W := wc.drew) hb3 hg2 hg2 k2⟩)
                    (first | (go_at_call 11; refine (HNM.out _ ?_).mono ?_; exact hVc.drew; rintro e w3 ⟨rfl, hb3⟩; have y0 := bc (W := wc.drew) hb3 z0; have yf0 := (hb3.frozen (p := ⟨Bn, 0, none⟩) hBnw).trans (zf 0); have y1 := bc (W := wc.drew) hb3 z1; have yf1 := (hb3.frozen (p := ⟨Bn, 1, none⟩) hBnw).trans (zf 1)))
                  go_wp2
                  go_meet
                  exact ⟨nxt c K, _, _, HG, by rw [HR.out.1], by rw [HR.out.2]; go_num, rfl, (World.cell?_setCell_other _ _ _ _ (by simp)).trans y0, World.cell?_setCell_same _ _ _ y1, Far.set (Far.later HPL.out (undrew hb3)) hbs hcl hll hsl hown _ _⟩
                · have hd : decide (nxt c K < nxt b K) = false := by simpa using hlt
                  rw [hd]
                  clear hd
                  have heq : nxt c K = nxt b K := by omega
                  have hk : nxt b K < 10 := by have := HX2.out; omega
                  have hk2 : nxt c K < 10 := by omega
                  have HF := take3 (xs := xs) (xt := xt) hk heq
                  obtain ⟨gg, rfl, hcc1⟩ := u1.at (hi1.1 hk)
                  have k1 : wc.cell? ⟨gg, rank b K, none⟩ = some (.int .u64 (xs (rank b K))) := (hVc.cell (p := ⟨gg, rank b K, none⟩) (World.block_lt_of_cell? _ _ hcc1)).trans hcc1
                  have hg1 : gg ≠ Bn := by have := World.block_lt_of_cell? _ _ hcc1; simp only at this; omega
                  have hil1 : rank b K < n := hi1.1 hk
                  obtain ⟨gg2, rfl, hcc2⟩ := u2.at (hj1.1 hk2)
                  have k2 : wc.cell? ⟨gg2, rank c K, none⟩ = some (.int .u64 (xt (rank c K))) := (hVc.cell (p := ⟨gg2, rank c K, none⟩) (World.block_lt_of_cell? _ _ hcc2)).trans hcc2
                  have hg2 : gg2 ≠ Bn := by have := World.block_lt_of_cell? _ _ hcc2; simp only at this; omega
                  have hil2 : rank c K < m := hj1.1 hk2
                  have hname : ∀ W, Below V0.heap.size V0 W → Calls Yba.prog 11 #[.agg #[.string t1, .int .i64 0, v1], .int .i64 (rank b K : Int)] W (BelPost (.string (nm (nxt b K))) W) := fun W hW => by
                    have := name_any t1 v1 b (nxt b K) hk (nxt_yes hk) W (h1.later hW)
                    rw [rank_nxt] at this
                    exact this
                  have HNM : Hid (∀ W, Below V0.heap.size V0 W → Calls Yba.prog 11 #[.agg #[.string t1, .int .i64 0, v1], .int .i64 (rank b K : Int)] W (BelPost (.string (nm (nxt b K))) W)) := hname
                  have HG : Hid (K ≤ nxt b K ∧ nxt b K < 10 ∧ expL b c xs xt (nxt b K + 1) = expL b c xs xt K ++ [(nm (nxt b K), xs (rank b K), xt (rank c K))]) := ⟨k1ge, hk, HF.1⟩
                  have HR : Hid (rank b (nxt b K + 1) = rank b K + 1 ∧ rank c (nxt b K + 1) = rank c K + 1) := HF.2
                  have hbn : b1 ≠ Bn := by omega
                  have hbn2 : b2 ≠ Bn := by omega
                  clear hnl HF hname hcc1 hcc2 hlt heq g0 g1 g2 hi1 hj1 k1le k2le k1ge k2ge
                  go_wp2
                  go_region_held3 (fun w' => w'.cell? ⟨b1, 0, none⟩ = some (.string t1) ∧ w'.cell? ⟨b1, 1, none⟩ = some (.int .i64 0) ∧ w'.cell? ⟨b1, 2, none⟩ = some v1 ∧ w'.cell? ⟨b1, 3, none⟩ = some (.slice (some ⟨gg, 0, none⟩) n d1) ∧ w'.cell? ⟨gg, rank b K, none⟩ = some (.int .u64 (xs (rank b K))) ∧ w'.cell? ⟨b2, 3, none⟩ = some (.slice (some ⟨gg2, 0, none⟩) m d2) ∧ w'.cell? ⟨gg2, rank c K, none⟩ = some (.int .u64 (xt (rank c K))))
                    (first | go_keep | exact ⟨bc (W := wc.drew) hb3 e0, bc (W := wc.drew) hb3 e1, bc (W := wc.drew) hb3 e2, bc (W := wc.drew) hb3 e3, bc (W := wc.drew) hb3 k1, bc (W := wc.drew) hb3 g3, bc (W := wc.drew) hb3 k2⟩ | exact ⟨bcs (W := wc.drew) hb3 hbn e0, bcs (W := wc.drew) hb3 hbn e1, bcs (W := wc.drew) hb3 hbn e2, bcs (W := wc.drew) hb3 hbn e3, bcs (W := wc.drew) hb3 hg1 k1, bcs (W := wc.drew) hb3 hbn2 g3, bcs (W := wc.drew) hb3 hg2 k2⟩ | exact ⟨bcs2 (W := wc.drew) hb3 hbn hbn e0, bcs2 (W := wc.drew) hb3 hbn hbn e1, bcs2 (W := wc.drew) hb3 hbn hbn e2, bcs2 (W := wc.drew) hb3 hbn hbn e3, bcs2 (W := wc.drew) hb3 hg1 hg1 k1, bcs2 (W := wc.drew) hb3 hbn2 hbn2 g3, bcs2 (W := wc.drew) hb3 hg2 hg2 k2⟩)
                    (first | (go_at_call 11; refine (HNM.out _ ?_).mono ?_; exact hVc.drew; rintro e w3 ⟨rfl, hb3⟩; have y0 := bc (W := wc.drew) hb3 z0; have yf0 := (hb3.frozen (p := ⟨Bn, 0, none⟩) hBnw).trans (zf 0); have y1 := bc (W := wc.drew) hb3 z1; have yf1 := (hb3.frozen (p := ⟨Bn, 1, none⟩) hBnw).trans (zf 1)))
                  go_wp2
                  go_meet
                  exact ⟨nxt b K, _, _, HG, by rw [HR.out.1]; go_num, by rw [HR.out.2]; go_num, rfl, (World.cell?_setCell_other _ _ _ _ (by simp)).trans (World.cell?_setCell_same _ _ _ y0), World.cell?_setCell_same _ _ _ ((World.cell?_setCell_other _ _ _ _ (by simp)).trans y1), Far.set (Far.set (Far.later HPL.out (undrew hb3)) hbs hcl hll hsl hown _ _) hbs hcl hll hsl hown _ _⟩
        case rest =>
          obtain ⟨k, x, y, HG, rfl, rfl, rfl, y0, y1, HPL⟩ := hcut
          have hel := expL_len b c xs xt K
          have hyield := yield_any base Bc Bl Bs stop (expL b c xs xt K) v' (nm k) x y wc hcl hll hsl m1 m2 m3 (by omega) HPL.out.2
          rw [← HG.out.2.2] at hyield
          obtain ⟨r, hr⟩ : ∃ r, r = (!(decide (0 < stop) && (((expL b c xs xt K).length : Int) + 1 == stop))) := ⟨_, rfl⟩
          rw [← hr] at hyield
          have HR := not_yet HS.out hr
          have hl1 : (expL b c xs xt (k + 1)).length = (expL b c xs xt K).length + 1 := by rw [HG.out.2.2]; simp
          rw [← hl1] at HR
          have HRR : Hid ((r = true → stop ≤ 0 ∨ ((expL b c xs xt (k + 1)).length : Int) < stop) ∧ (r = false → 0 < stop ∧ ((expL b c xs xt (k + 1)).length : Int) = stop)) := HR
          have hKk := HG.out.1
          have hk10 := HG.out.2.1
          clear hr HR hl1 hi1 hj1 hc1 hc2 E0 E1 E2 E3 G0 G1 G2 G3 e0 e1 e2 e3 g0 g1 g2 g3 k1le k2le k1ge k2ge hile hjle hne9 hrw9 hs9 hb9 hV9 HW9 hxr hVr hst hkp
          go_wp2_with fail
          refine hyield.mono ?_
          rintro e w4 ⟨rfl, ⟨v4, hst4⟩, hk4⟩
          have hkp4 := HPL.out.1.trans hk4
          clear hyield
          cases r with
          | true =>
            go_wp2
            go_roundg (10 - (k + 1))
            case measure => omega
            case rel => exact ⟨k + 1, v4, by omega, rfl, rfl, rfl, HRR.out.1 (by simp), hkp4, hst4⟩
          | false =>
            go_wp2
            go_end0
            have hq := HRR.out.2 (by simp)
            exact ⟨rfl, ⟨_, v4, .inr ⟨hq.1, hq.2, expL_prefix b c xs xt 10 (by omega)⟩, hst4⟩, hkp4⟩
    · have b10 : nxt b K = 10 := by omega
      have c10 : nxt c K = 10 := by omega
      have HE : Hid (expL b c xs xt 10 = expL b c xs xt K) := expL_same 10 hK (fun i h1 h2 => nxt_no (K := K) h1 (by omega)) (fun i h1 h2 => nxt_no (K := K) h1 (by omega))
      have t4 : ¬ (rank b K : Int) < (n : Int) := by have := hi1; omega
      have t5 : ¬ (rank c K : Int) < (m : Int) := by have := hj1; omega
      clear hc1 hc2 E0 E1 E2 E3 G0 G1 G2 G3 hi1 hj1 hX b10 c10 hne9 hrw9 hs9 hb9 hV9 HW9 k1le k2le k1ge k2ge hile hjle
      go_wp2
      go_end0
      refine ⟨rfl, ⟨_, v', .inl ⟨HE.out.symm, HS.out⟩, hst⟩, hkp⟩
end Go.Proofs.Ybulkbtec
