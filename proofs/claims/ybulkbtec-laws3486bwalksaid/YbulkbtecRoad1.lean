import Derived.Test.YbulkbtecUnion
namespace Go.Proofs.Ybulkbtec
open Go.RowKit Plain

theorem U64s.form {w : World} {v : Value} {n : Nat} {f : Nat → Int} (h : U64s w v n f) : ∃ a c, v = .slice a n c := by
  obtain ⟨g, cap, h⟩ := h
  rcases h with ⟨h1, h2⟩ | ⟨h1, _⟩
  · exact ⟨none, 0, by rw [h1, h2]⟩
  · exact ⟨_, _, h1⟩
theorem U64s.at {w : World} {a : Option Addr} {n c i : Nat} {f : Nat → Int} (h : U64s w (.slice a n c) n f) (hi : i < n) : ∃ g, a = some ⟨g, 0, none⟩ ∧ w.cell? ⟨g, i, none⟩ = some (.int .u64 (f i)) := by
  obtain ⟨g, cap, h⟩ := h
  rcases h with ⟨h1, h2⟩ | ⟨h1, h2⟩
  · omega
  · simp only [Value.slice.injEq] at h1
    exact ⟨g, h1.1, h2 i hi⟩

theorem undrew {W w' : World} (hb : Below W.drew.heap.size W.drew w') : Below W.heap.size W w' := ⟨hb.os, hb.tape, hb.output, hb.size, hb.block⟩

/-- A cell of a world behind which nothing old has turned. -/
theorem bc {W w' : World} {a : Addr} {v : Value} (hb : Below W.heap.size W w') (h : W.cell? a = some v) : w'.cell? a = some v := (hb.cell (World.block_lt_of_cell? _ _ h)).trans h

theorem expL_next {b c : Nat → Bool} {xs xt : Nat → Int} {K k : Nat} (hk : K ≤ k) (hb : ∀ i, K ≤ i → i < k → b i = false) (hc : ∀ i, K ≤ i → i < k → c i = false) (h : (b k || c k) = true) :
    expL b c xs xt (k + 1) = expL b c xs xt K ++ [ent b c xs xt k] := by
  rw [expL_yes h, expL_same k hk hb hc]

theorem not_yet {stop : Int} {n : Nat} {r : Bool} (h : stop ≤ 0 ∨ (n : Int) < stop) (hr : r = (!(decide (0 < stop) && ((n : Int) + 1 == stop)))) : (r = true → stop ≤ 0 ∨ ((n + 1 : Nat) : Int) < stop) ∧ (r = false → 0 < stop ∧ ((n + 1 : Nat) : Int) = stop) := by
  subst hr
  constructor
  · intro hr
    by_cases h0 : 0 < stop
    · by_cases h1 : (n : Int) + 1 = stop
      · simp [h0, h1] at hr
      · right; omega
    · left; omega
  · intro hr
    simp at hr
    omega

set_option maxHeartbeats 2000000 in
set_option maxRecDepth 100000 in
theorem road1 (V0 w : World) (b1 b2 base Bc Bl Bs : Nat) (t1 t2 : ByteArray) (v1 v2 c1 c2 : Value) (b c : Nat → Bool) (xs xt : Nat → Int) (stop : Int) (v : Value) (hx : Ctx V0 w b1 b2 base Bc Bl t1 t2 v1 v2 c1 c2 b c xs xt)
    (hcl : Bc < base) (hll : Bl < base) (hsl : Bs < base) (m1 : Bc ≠ Bl) (m2 : Bc ≠ Bs) (m3 : Bl ≠ Bs) (hst : Lst w base Bc Bl Bs stop [] v) (hs : sameB b c) (hs0 : stop ≤ 0 ∨ ((0 : Nat) : Int) < stop) :
    Calls Yba.prog 9 #[.func (.func 8) #[] #[.pointer (some ⟨Bc, 0, none⟩), .pointer (some ⟨Bl, 0, none⟩), .pointer (some ⟨Bs, 0, none⟩)], .pointer (some ⟨b1, 0, none⟩), .pointer (some ⟨b2, 0, none⟩)] w
      (UPost (expL b c xs xt 10) base Bc Bl Bs stop w) := by
  have hr10 := rank_le b 10
  have hrc : rank c 10 = rank b 10 := (rank_congr hs 10 (Nat.le_refl _)).symm
  obtain ⟨a1, d1, rfl⟩ := hx.u1.form
  obtain ⟨a2, d2, rfl⟩ := hx.u2.form
  obtain ⟨n, hn⟩ : ∃ n, rank b 10 = n := ⟨_, rfl⟩
  obtain ⟨h1, h2, u1, u2, p0, p1, p2, p3, q0, q1, q2, q3, nb1, nb2, nm0, hV⟩ := id hx
  rw [hn] at u1 p3 hr10
  rw [hrc, hn] at u2 q3
  have HX : Hid (Ctx V0 w b1 b2 base Bc Bl t1 t2 v1 v2 (.slice a1 n d1) (.slice a2 n d2) b c xs xt) := by rw [hn, hrc, hn] at hx; exact hx
  have HN : Hid (rank b 10 = n ∧ rank c 10 = n ∧ sameB b c) := ⟨hn, by omega, hs⟩
  clear hx hn hrc hs
  go_enter Yba.func9, Yba.ntmps9
  go_wp2_with fail
  refine (equal_any t1 t2 v1 v2 b c w (h1.later hV) (h2.later hV)).mono ?_
  rintro e w1 ⟨r, rfl, hr, hb1⟩
  obtain rfl : r = true := hr.2 HN.out.2.2
  clear hr
  have hk1 : Kp base Bc Bl w w1 := Kp.of_below (hb1.mono hst.size)
  have HX1 := HX.out.kp hk1
  obtain ⟨_, _, _, _, e0, e1, e2, e3, g0, g1, g2, g3, _, _, _, hV1⟩ := id HX1
  have hst1 := hst.later hb1
  clear p0 p1 p2 p3 q0 q1 q2 q3 hst
  go_wp2
  clear e0 e1 e2 e3 g0 g1 g2 g3 HX1 hV1
  go_loopg [18] 10 (fun g vi wr => ∃ (K : Nat) (v' : Value), K ≤ 10 ∧ g = 10 - K ∧ vi = .int .i64 (rank b K : Int) ∧ Hid (stop ≤ 0 ∨ ((expL b c xs xt K).length : Int) < stop) ∧ Kp base Bc Bl w wr ∧ Lst wr base Bc Bl Bs stop (expL b c xs xt K) v')
  case atStart => exact ⟨0, v, by omega, rfl, rfl, hs0, hk1, hst1⟩
  case round =>
    clear hst1 hk1 hb1
    obtain ⟨K, v', hK, rfl, rfl, HS, hkp, hst⟩ := hrel
    have hrK := rank_le b K
    by_cases hlt : rank b K < n
    · have hx1 : nxt b K < 10 := (rank_more hK).1 (by rw [HN.out.1]; exact hlt)
      obtain ⟨k, hk⟩ : ∃ k, nxt b K = k := ⟨_, rfl⟩
      have hbk : b k = true := by rw [← hk]; exact nxt_yes hx1
      have hck : c k = true := by rw [← HN.out.2.2 k (by omega)]; exact hbk
      have hKk : K ≤ k := by rw [← hk]; exact nxt_ge b K
      have hrk : rank b k = rank b K := by rw [← hk]; exact rank_nxt b K
      have hrck : rank c k = rank b K := by rw [← hrk]; exact (rank_congr HN.out.2.2 k (by omega)).symm
      have hnb : ∀ i, K ≤ i → i < k → b i = false := fun i h1 h2 => nxt_no (K := K) h1 (by omega)
      have hnc : ∀ i, K ≤ i → i < k → c i = false := fun i h1 h2 => by rw [← HN.out.2.2 i (by omega)]; exact hnb i h1 h2
      obtain ⟨gg, rfl, hcc⟩ := u1.at hlt
      obtain ⟨gg2, rfl, hcc2⟩ := u2.at hlt
      have hxr := HX.out.kp hkp
      obtain ⟨_, _, _, _, e0, e1, e2, e3, g0, g1, g2, g3, _, _, _, hVr⟩ := id hxr
      have k1 : wr.cell? ⟨gg, rank b K, none⟩ = some (.int .u64 (xs (rank b K))) := (hVr.cell (p := ⟨gg, rank b K, none⟩) (World.block_lt_of_cell? _ _ hcc)).trans hcc
      have k2 : wr.cell? ⟨gg2, rank b K, none⟩ = some (.int .u64 (xt (rank b K))) := (hVr.cell (p := ⟨gg2, rank b K, none⟩) (World.block_lt_of_cell? _ _ hcc2)).trans hcc2
      have hname : ∀ W, Below V0.heap.size V0 W → Calls Yba.prog 11 #[.agg #[.string t1, .int .i64 0, v1], .int .i64 (rank b K : Int)] W (BelPost (.string (nm k)) W) := fun W hW => by
        have := name_any t1 v1 b k (by omega) hbk W (h1.later hW)
        rw [hrk] at this
        exact this
      have hel := expL_len b c xs xt K
      have hyield : ∀ W, Lst W base Bc Bl Bs stop (expL b c xs xt K) v' → Calls Yba.prog 8 #[.string (nm k), .agg #[.int .u64 (xs (rank b K)), .int .u64 (xt (rank b K))], .pointer (some ⟨Bc, 0, none⟩), .pointer (some ⟨Bl, 0, none⟩), .pointer (some ⟨Bs, 0, none⟩)] W (YPost base Bc Bl Bs stop (expL b c xs xt K ++ [(nm k, xs (rank b K), xt (rank b K))]) W (!(decide (0 < stop) && (((expL b c xs xt K).length : Int) + 1 == stop)))) :=
        fun W hW => yield_any base Bc Bl Bs stop _ v' (nm k) _ _ W hcl hll hsl m1 m2 m3 (by omega) hW
      have hent : expL b c xs xt K ++ [(nm k, xs (rank b K), xt (rank b K))] = expL b c xs xt (k + 1) := by
        rw [expL_next hKk hnb hnc (by rw [hbk]; rfl)]
        simp [ent, ek, hbk, hck, hrk, hrck]
      rw [hent] at hyield
      obtain ⟨r, hr⟩ : ∃ r, r = (!(decide (0 < stop) && (((expL b c xs xt K).length : Int) + 1 == stop))) := ⟨_, rfl⟩
      rw [← hr] at hyield
      have HR := not_yet HS.out hr
      have hl1 : (expL b c xs xt (k + 1)).length = (expL b c xs xt K).length + 1 := by rw [← hent]; simp
      rw [← hl1] at HR
      have HRR : Hid ((r = true → stop ≤ 0 ∨ ((expL b c xs xt (k + 1)).length : Int) < stop) ∧ (r = false → 0 < stop ∧ ((expL b c xs xt (k + 1)).length : Int) = stop)) := HR
      have HRK : Hid (rank b (k + 1) = rank b K + 1) := by show _ = _; rw [rank_yes hbk, hrk]
      have hil : (rank b K : Int) < (n : Int) := by omega
      have HY : Hid (∀ W, Lst W base Bc Bl Bs stop (expL b c xs xt K) v' → Calls Yba.prog 8 #[.string (nm k), .agg #[.int .u64 (xs (rank b K)), .int .u64 (xt (rank b K))], .pointer (some ⟨Bc, 0, none⟩), .pointer (some ⟨Bl, 0, none⟩), .pointer (some ⟨Bs, 0, none⟩)] W (YPost base Bc Bl Bs stop (expL b c xs xt (k + 1)) W r)) := hyield
      have HNM : Hid (∀ W, Below V0.heap.size V0 W → Calls Yba.prog 11 #[.agg #[.string t1, .int .i64 0, v1], .int .i64 (rank b K : Int)] W (BelPost (.string (nm k)) W)) := hname
      have HK : Hid (nxt b K = k) := hk
      have hgg2 : gg2 < base ∧ gg2 ≠ Bc ∧ gg2 ≠ Bl := by have := World.block_lt_of_cell? _ _ hcc2; simp only at this; omega
      have hk10 : k < 10 := by omega
      clear hr HR hl1 hent hyield hname hnb hnc hrk hrck hbk hck hcc hcc2 hk hx1 e3 g0 g1 g2
      go_wp2
      go_region_held3 (fun w' => w'.cell? ⟨b1, 0, none⟩ = some (.string t1) ∧ w'.cell? ⟨b1, 1, none⟩ = some (.int .i64 0) ∧ w'.cell? ⟨b1, 2, none⟩ = some v1 ∧ w'.cell? ⟨b2, 3, none⟩ = some (.slice (some ⟨gg2, 0, none⟩) n d2) ∧ w'.cell? ⟨gg2, rank b K, none⟩ = some (.int .u64 (xt (rank b K))))
        (first | go_keep | exact ⟨bc (W := wr.drew) hb3 e0, bc (W := wr.drew) hb3 e1, bc (W := wr.drew) hb3 e2, bc (W := wr.drew) hb3 g3, bc (W := wr.drew) hb3 k2⟩ | exact ⟨hk4.cell nb1 (bc (W := wr.drew) hb3 e0), hk4.cell nb1 (bc (W := wr.drew) hb3 e1), hk4.cell nb1 (bc (W := wr.drew) hb3 e2), hk4.cell nb2 (bc (W := wr.drew) hb3 g3), hk4.cell hgg2 (bc (W := wr.drew) hb3 k2)⟩)
        (first | (go_at_call 11; refine (HNM.out _ ?_).mono ?_; exact hVr.drew; rintro e w3 ⟨rfl, hb3⟩) | (go_at_call 8; refine (HY.out _ ?_).mono ?_; exact hst.later (undrew hb3); rintro e w4 ⟨rfl, ⟨v4, hst4⟩, hk4⟩))
      have hkp4 : Kp base Bc Bl w w4 := (hkp.trans (Kp.of_below ((undrew hb3).mono hst.size))).trans hk4
      cases r with
      | true =>
        go_wp2
        go_roundg (10 - (k + 1))
        case measure => omega
        case rel => exact ⟨k + 1, v4, by omega, rfl, by rw [HRK.out]; go_num, HRR.out.1 (by simp), hkp4, hst4⟩
      | false =>
        go_wp2
        go_end0
        have hq := HRR.out.2 (by simp)
        exact ⟨rfl, ⟨_, v4, .inr ⟨hq.1, hq.2, expL_prefix b c xs xt 10 (by omega)⟩, hst4⟩, hkp4⟩
    · have hend : nxt b K = 10 := (rank_end hK).1 (by have := rank_mono b hK; have := HN.out.1; omega)
      have hE : expL b c xs xt 10 = expL b c xs xt K := expL_same 10 hK (fun i h1 h2 => nxt_no (K := K) h1 (by omega)) (fun i h1 h2 => by rw [← HN.out.2.2 i h2]; exact nxt_no (K := K) h1 (by omega))
      have HE : Hid (expL b c xs xt 10 = expL b c xs xt K) := hE
      clear hend hE
      go_wp2
      go_end0
      refine ⟨rfl, ⟨_, v', .inl ⟨HE.out.symm, HS.out⟩, hst⟩, hkp⟩
end Go.Proofs.Ybulkbtec
