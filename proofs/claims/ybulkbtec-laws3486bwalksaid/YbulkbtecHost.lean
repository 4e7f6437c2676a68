import Derived.Test.YbulkbtecSmall
namespace Go.Proofs.Ybulkbtec
open Go.RowKit Plain

/-- The host list (txt, bs) names the hosts of the bits b. -/
def Hosts (w : World) (txt : ByteArray) (bs : Value) (b : Nat → Bool) : Prop :=
  txt.size ≤ 30 ∧ ∃ B : Nat → Int, U64s w bs (2 * rank b 10) B ∧ ∀ k, k < 10 → b k = true → ∃ lo : Nat, B (2 * rank b k) = lo ∧ B (2 * rank b k + 1) = lo + (nm k).size ∧ lo + (nm k).size ≤ txt.size ∧ txt.extract lo (lo + (nm k).size) = nm k
theorem Hosts.later {w w' : World} {txt : ByteArray} {bs : Value} {b : Nat → Bool} (h : Hosts w txt bs b) (hb : Below w.heap.size w w') : Hosts w' txt bs b := by
  obtain ⟨h1, B, h2, h3⟩ := h
  exact ⟨h1, B, h2.later hb, h3⟩

def BelPost (v : Value) (w : World) (e : Ending) (w' : World) : Prop := e = .returned v ∧ Below w.heap.size w w'

set_option maxHeartbeats 400000 in
theorem name_any (txt : ByteArray) (bs : Value) (b : Nat → Bool) (k : Nat) (hk : k < 10) (hbk : b k = true) (w : World) (hH : Hosts w txt bs b) :
    Calls Yba.prog 11 #[.agg #[.string txt, .int .i64 0, bs], .int .i64 (rank b k : Int)] w (BelPost (.string (nm k)) w) := by
  obtain ⟨hsz, B, ⟨g, cap, hU⟩, hB⟩ := hH
  have hr := rank_lt hk hbk
  have hr10 := rank_le b 10
  rcases hU with ⟨_, h0⟩ | ⟨rfl, hc⟩
  · omega
  obtain ⟨lo, e1, e2, e3, e4⟩ := hB k hk hbk
  have c1 := hc (2 * rank b k) (by omega)
  have c2 := hc (2 * rank b k + 1) (by omega)
  rw [e1] at c1
  rw [e2] at c2
  have hgl : g < w.heap.size := World.block_lt_of_cell? _ _ c1
  have HE : Hid (txt.extract lo (lo + (nm k).size) = nm k) := e4
  clear hc hB e1 e2 e4 hbk
  obtain ⟨r, hrr⟩ : ∃ r, rank b k = r := ⟨_, rfl⟩
  obtain ⟨n, hnn⟩ : ∃ n, rank b 10 = n := ⟨_, rfl⟩
  rw [hrr] at c1 c2 hr ⊢
  rw [hnn] at hr hr10 ⊢
  clear hrr hnn
  obtain ⟨S, hS⟩ : ∃ S, (nm k).size = S := ⟨_, rfl⟩
  rw [hS] at c2 e3 HE
  clear hS
  have p1 : 2 * (r : Int) < 2 * (n : Int) := by omega
  have p2 : 2 * (r : Int) + 1 < 2 * (n : Int) := by omega
  have d1 : (w.alloc (.cells #[.string txt, .int .i64 0, .slice (some ⟨g, 0, none⟩) (2 * n) cap] 25)).cell? ⟨g, 2 * r, none⟩ = some (.int .u64 (lo : Int)) := by
    rw [World.cell?_alloc_lt _ _ _ hgl]; exact c1
  have d2 : (w.alloc (.cells #[.string txt, .int .i64 0, .slice (some ⟨g, 0, none⟩) (2 * n) cap] 25)).cell? ⟨g, 2 * r + 1, none⟩ = some (.int .u64 ((lo : Int) + (S : Int))) := by
    rw [World.cell?_alloc_lt _ _ _ hgl]; exact c2
  clear c1 c2
  go_enter Yba.func11, Yba.ntmps11
  go_wp2
  go_quiet (fail)
  go_wp2
  go_ret
  refine ⟨?_, below_drewN ((Below.refl _ _).alloc (Nat.le_refl _) _) _⟩
  rw [← HE.out]
  rfl

set_option maxHeartbeats 400000 in
theorem len_any (txt : ByteArray) (ao : Option Addr) (n cap : Nat) (hn : n ≤ 10) (w : World) :
    Calls Yba.prog 12 #[.agg #[.string txt, .int .i64 0, .slice ao (2 * n) cap]] w (BelPost (.int .i64 (n : Int)) w) := by
  go_enter Yba.func12, Yba.ntmps12
  go_wp2
  go_ret
  exact ⟨ret_int (by omega), (Below.refl _ _).alloc (Nat.le_refl _) _⟩

/-- Names part in byte order as their numbers do. -/
theorem nm_less (k m : Nat) (hk : k < 10) (hm : m < 10) : Op.bytesLess (nm k).toList (nm m).toList = decide (k < m) := by
  have h : ∀ k, k < 10 → ∀ m, m < 10 → Op.bytesLess (nm k).toList (nm m).toList = decide (k < m) := by decide +kernel
  exact h k hk m hm
theorem nm_eq (k m : Nat) (hk : k < 10) (hm : m < 10) : ((nm k).toList == (nm m).toList) = decide (k = m) := by
  have h : ∀ k, k < 10 → ∀ m, m < 10 → ((nm k).toList == (nm m).toList) = decide (k = m) := by decide +kernel
  exact h k hk m hm

/-- Do the two masks name the same hosts? -/
def sameB (b c : Nat → Bool) : Prop := ∀ k, k < 10 → b k = c k

def EqPost (b c : Nat → Bool) (w : World) (e : Ending) (w' : World) : Prop := ∃ r : Bool, e = .returned (.bool r) ∧ (r = true ↔ sameB b c) ∧ Below w.heap.size w w'

set_option maxHeartbeats 1000000 in
theorem equal_any (t1 t2 : ByteArray) (v1 v2 : Value) (b c : Nat → Bool) (w : World) (h1 : Hosts w t1 v1 b) (h2 : Hosts w t2 v2 c) :
    Calls Yba.prog 10 #[.agg #[.string t1, .int .i64 0, v1], .agg #[.string t2, .int .i64 0, v2]] w (EqPost b c w) := by
  have hr1 := rank_le b 10
  have hr2 := rank_le c 10
  have H1 := h1
  have H2 := h2
  obtain ⟨s1, B1, ⟨g1, c1, hU1⟩, _⟩ := h1
  obtain ⟨s2, B2, ⟨g2, c2, hU2⟩, _⟩ := h2
  obtain ⟨a1, d1, f1⟩ : ∃ a1 d1, v1 = .slice a1 (2 * rank b 10) d1 := by
    rcases hU1 with ⟨h, h0⟩ | ⟨h, _⟩
    · exact ⟨none, 0, by rw [h, h0]⟩
    · exact ⟨_, _, h⟩
  obtain ⟨a2, d2, f2⟩ : ∃ a2 d2, v2 = .slice a2 (2 * rank c 10) d2 := by
    rcases hU2 with ⟨h, h0⟩ | ⟨h, _⟩
    · exact ⟨none, 0, by rw [h, h0]⟩
    · exact ⟨_, _, h⟩
  subst f1
  subst f2
  clear hU1 hU2 s1 s2
  by_cases hne : rank b 10 = rank c 10
  · obtain ⟨N, hN⟩ : ∃ N, rank b 10 = N := ⟨_, rfl⟩
    have hN2 : rank c 10 = N := by omega
    have HN : Hid (rank b 10 = N ∧ rank c 10 = N) := ⟨hN, hN2⟩
    rw [hN] at hr1 H1 ⊢
    rw [hN2] at H2 ⊢
    clear hne hr2 hN hN2
    go_enter Yba.func10, Yba.ntmps10
    go_wp2_with fail
    obtain ⟨W0, hW0⟩ : ∃ W0, W0 = (w.alloc (.cells #[.string t1, .int .i64 0, .slice a1 (2 * N) d1] 25)).alloc (.cells #[.string t2, .int .i64 0, .slice a2 (2 * N) d2] 25) := ⟨_, rfl⟩
    have hb0 : Below w.heap.size w W0 := by rw [hW0]; exact ((Below.refl _ _).alloc (Nat.le_refl _) _).alloc (by simp) _
    have k0 : W0.cell? ⟨w.heap.size, 0, none⟩ = some (.string t1) := by rw [hW0]; simp [go_sem]
    have k1 : W0.cell? ⟨w.heap.size, 1, none⟩ = some (.int .i64 0) := by rw [hW0]; simp [go_sem]
    have k2 : W0.cell? ⟨w.heap.size, 2, none⟩ = some (.slice a1 (2 * N) d1) := by rw [hW0]; simp [go_sem]
    have l0 : W0.cell? ⟨w.heap.size + 1, 0, none⟩ = some (.string t2) := by rw [hW0]; simp [go_sem]
    have l1 : W0.cell? ⟨w.heap.size + 1, 1, none⟩ = some (.int .i64 0) := by rw [hW0]; simp [go_sem]
    have l2 : W0.cell? ⟨w.heap.size + 1, 2, none⟩ = some (.slice a2 (2 * N) d2) := by rw [hW0]; simp [go_sem]
    rw [← hW0]
    clear hW0
    refine (len_any t1 a1 N d1 hr1 W0).mono ?_
    rintro e w1 ⟨rfl, hb1⟩
    go_wp2
    go_loopg [36] 10 (fun g vi wr => ∃ K : Nat, K ≤ 10 ∧ g = 10 - K ∧ vi = .int .i64 (rank b K : Int) ∧ Hid (rank c K = rank b K ∧ ∀ k, k < K → b k = c k) ∧ Below W0.heap.size W0 wr)
    case atStart => exact ⟨0, by omega, rfl, rfl, ⟨rfl, fun k hk => by omega⟩, hb1⟩
    case round =>
      clear hb1
      obtain ⟨K, hK, rfl, rfl, HK, hB⟩ := hrel
      have hrK := rank_le b K
      by_cases hlt : rank b K < N
      · have hx1 : nxt b K < 10 := (rank_more hK).1 (by rw [HN.out.1]; exact hlt)
        have hx2 : nxt c K < 10 := (rank_more hK).1 (by rw [HN.out.2, HK.out.1]; exact hlt)
        have hc1 : ∀ n : CW W0, Calls Yba.prog 11 #[.agg #[.string t1, .int .i64 0, .slice a1 (2 * N) d1], .int .i64 (rank b K : Int)] n.val (fun e w'' => e = .returned (.string (nm (nxt b K))) ∧ ∃ m : CW W0, w'' = m.val) := by
          intro n
          have := name_any t1 (.slice a1 (2 * N) d1) b (nxt b K) hx1 (nxt_yes hx1) n.val ((H1.later hb0).later n.ok)
          rw [rank_nxt] at this
          exact this.mono fun e w' ⟨h, h'⟩ => ⟨h, ⟨w', past n.ok h'⟩, rfl⟩
        have hc2 : ∀ n : CW W0, Calls Yba.prog 11 #[.agg #[.string t2, .int .i64 0, .slice a2 (2 * N) d2], .int .i64 (rank b K : Int)] n.val (fun e w'' => e = .returned (.string (nm (nxt c K))) ∧ ∃ m : CW W0, w'' = m.val) := by
          intro n
          have := name_any t2 (.slice a2 (2 * N) d2) c (nxt c K) hx2 (nxt_yes hx2) n.val ((H2.later hb0).later n.ok)
          rw [rank_nxt, HK.out.1] at this
          exact this.mono fun e w' ⟨h, h'⟩ => ⟨h, ⟨w', past n.ok h'⟩, rfl⟩
        have q0 : ∀ n : CW W0, n.val.cell? ⟨w.heap.size, 0, none⟩ = some (.string t1) := CW.cell k0
        have q1 : ∀ n : CW W0, n.val.cell? ⟨w.heap.size, 1, none⟩ = some (.int .i64 0) := CW.cell k1
        have q2 : ∀ n : CW W0, n.val.cell? ⟨w.heap.size, 2, none⟩ = some (.slice a1 (2 * N) d1) := CW.cell k2
        have r0 : ∀ n : CW W0, n.val.cell? ⟨w.heap.size + 1, 0, none⟩ = some (.string t2) := CW.cell l0
        have r1 : ∀ n : CW W0, n.val.cell? ⟨w.heap.size + 1, 1, none⟩ = some (.int .i64 0) := CW.cell l1
        have r2 : ∀ n : CW W0, n.val.cell? ⟨w.heap.size + 1, 2, none⟩ = some (.slice a2 (2 * N) d2) := CW.cell l2
        have hne := CW.any W0
        have hle1 := nxt_ge b K
        clear k0 k1 k2 l0 l1 l2
        by_cases he : nxt b K = nxt c K
        · have hex : ((nm (nxt b K)).toList == (nm (nxt c K)).toList) = true := by rw [nm_eq _ _ hx1 hx2]; simp [he]
          have HS : Hid (rank b (nxt b K + 1) = rank b K + 1 ∧ rank c (nxt b K + 1) = rank b K + 1 ∧ ∀ k, k < nxt b K + 1 → b k = c k) := by
            refine ⟨by rw [rank_yes (nxt_yes hx1), rank_nxt], by rw [he, rank_yes (nxt_yes hx2), rank_nxt, HK.out.1], fun k hk => ?_⟩
            by_cases h1 : k < K
            · exact HK.out.2 k h1
            · by_cases h2 : k = nxt b K
              · rw [h2, nxt_yes hx1, he, nxt_yes hx2]
              · rw [nxt_no (b := b) (K := K) (by omega) (by omega), nxt_no (b := c) (K := K) (by omega) (by omega)]
          clear he
          go_wp2
          refine wp_region_cls W0 (by kernel_rfl) (by kernel_rfl) hB.drew ?_
          repeat (go_big_quiet_step (first | with_reducible exact hc1 _ | with_reducible exact hc2 _))
          refine wpQuiet_nil ?_
          intro w' hw'
          obtain ⟨⟨w3, hB3⟩, rfl⟩ := hw'
          clear hc1 hc2 q0 q1 q2 r0 r1 r2
          go_wp2
          go_roundg (10 - (nxt b K + 1))
          case measure => omega
          case rel => exact ⟨nxt b K + 1, by omega, rfl, by rw [HS.out.1]; go_num, ⟨by rw [HS.out.1, HS.out.2.1], HS.out.2.2⟩, hB3⟩
        · have hex : ((nm (nxt b K)).toList == (nm (nxt c K)).toList) = false := by rw [nm_eq _ _ hx1 hx2]; simp [he]
          have hns : ¬ sameB b c := fun h => by
            rcases Nat.lt_trichotomy (nxt b K) (nxt c K) with h1 | h1 | h1
            · have e1 := nxt_no (b := c) (nxt_ge b K) h1
              rw [← h _ hx1, nxt_yes hx1] at e1; cases e1
            · exact he h1
            · have e1 := nxt_no (b := b) (nxt_ge c K) h1
              rw [h _ hx2, nxt_yes hx2] at e1; cases e1
          have HNS : Hid (¬ sameB b c) := hns
          clear he hns
          go_wp2
          refine wp_region_cls W0 (by kernel_rfl) (by kernel_rfl) hB.drew ?_
          repeat (go_big_quiet_step (first | with_reducible exact hc1 _ | with_reducible exact hc2 _))
          refine wpQuiet_nil ?_
          intro w' hw'
          obtain ⟨⟨w3, hB3⟩, rfl⟩ := hw'
          clear hc1 hc2 q0 q1 q2 r0 r1 r2
          go_wp2
          go_ret
          exact ⟨false, rfl, ⟨fun h => (by cases h), fun h => absurd h HNS.out⟩, hb0.trans (hB3.mono hb0.size)⟩
      · have hsame : sameB b c := by
          have e1 : nxt b K = 10 := (rank_end hK).1 (by have := rank_mono b hK; have := HN.out.1; omega)
          have e2 : nxt c K = 10 := (rank_end hK).1 (by have := rank_mono c hK; have := HN.out; have := HK.out.1; omega)
          intro k hk
          by_cases h1 : k < K
          · exact HK.out.2 k h1
          · rw [nxt_no (b := b) (K := K) (by omega) (by omega), nxt_no (b := c) (K := K) (by omega) (by omega)]
        have HSB : Hid (sameB b c) := hsame
        clear hsame
        go_wp2
        go_ret
        exact ⟨true, rfl, ⟨fun _ => HSB.out, fun _ => rfl⟩, hb0.trans (hB.mono hb0.size)⟩
  · have hns : ¬ sameB b c := fun h => hne (rank_congr h 10 (Nat.le_refl _))
    have hx : (2 * (rank b 10 : Int) != 2 * (rank c 10 : Int)) = true := by simp; omega
    go_enter Yba.func10, Yba.ntmps10
    go_wp2
    go_ret
    exact ⟨false, rfl, ⟨fun h => (by cases h), fun h => absurd h hns⟩, ((Below.refl _ _).alloc (Nat.le_refl _) _).alloc (by simp) _⟩
end Go.Proofs.Ybulkbtec
