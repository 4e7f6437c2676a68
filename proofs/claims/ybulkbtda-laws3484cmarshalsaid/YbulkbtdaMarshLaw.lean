import Derived.Test.YbulkbtdaMarsh
namespace Go.Proofs.Ybulkbtda
open Go.RowKit

theorem Own.form {w : World} {base : Nat} {v : Value} {l : List Int} (h : Own w base v l) (hl : l ≠ []) : ∃ g cap, v = .slice (some ⟨g, 0, none⟩) l.length cap ∧ l.length ≤ cap ∧ cap ≤ maxLen := by
  rcases h with ⟨_, rfl⟩ | ⟨g, cap, cur, t, rfl, hb, hg, hlc, hcm, hcs, htk⟩
  · exact absurd rfl hl
  · exact ⟨g, cap, rfl, hlc, hcm⟩

theorem binl_ne (F : Nat → Int) : binl F ≠ [] := by simp [binl]

theorem reads_head {w : World} {base g cap : Nat} {l m : List Int} (h : Own w base (.slice (some ⟨g, 0, none⟩) (l ++ m).length cap) (l ++ m)) : Reads w (.slice (some ⟨g, 0, none⟩) l.length cap) l := by
  refine ⟨_, _, rfl, (fun h => by cases h), fun a ha j hj => ?_⟩
  obtain rfl := Option.some.inj ha
  rw [Addr.add_lit, Nat.zero_add, h.cell.2.2 j (by simp; omega)]
  simp only [List.getD]
  rw [List.getElem?_append_left hj]

theorem reads_tail {w : World} {base g cap c : Nat} {l m : List Int} (h : Own w base (.slice (some ⟨g, 0, none⟩) (l ++ m).length cap) (l ++ m)) : Reads w (.slice (some ⟨g, l.length, none⟩) m.length c) m := by
  refine ⟨_, _, rfl, (fun h => by cases h), fun a ha j hj => ?_⟩
  obtain rfl := Option.some.inj ha
  rw [Addr.add_lit, h.cell.2.2 (l.length + j) (by simp; omega)]
  simp only [List.getD]
  rw [List.getElem?_append_right (by omega)]
  simp

set_option maxHeartbeats 2000000 in
theorem marshal_any (F : Nat → Int) (ao : Option Addr) (l0 : List Int) (cap : Nat) (w : World) (hF : ∀ k, -9223372036854775808 ≤ F k ∧ F k ≤ 9223372036854775807) (h7 : -2147483648 ≤ F 7 ∧ F 7 ≤ 2147483647) (hl63 : l0.length ≤ 9223372036854775807) (hnone : ao = none → l0 = [] ∧ cap = 0) (hsrc : Src w ao l0) :
    Calls Yba.prog 5 #[.int .i64 (F 0), .int .i64 (F 1), .int .i64 (F 2), .int .i64 (F 3), .int .i64 (F 4), .int .i64 (F 5), .int .i64 (F 6), .int .i32 (F 7), .slice ao l0.length cap] w (LTruePost w) := by
  by_cases h1 : (4096 : Int) < (l0.length : Int)
  · go_enter Yba.func5, Yba.ntmps5
    go_wp2
    go_ret
    exact ⟨rfl, Below.refl _ _⟩
  have hll : l0.length ≤ 4096 := by omega
  go_enter Yba.func5, Yba.ntmps5
  go_wp2_with fail
  refine (period_any (F 0) (F 1) (F 2) (F 3) (F 4) (F 5) (F 6) (F 7) w).mono ?_
  rintro e w1 ⟨rfl, hb1⟩
  obtain ⟨W1, hW1⟩ : ∃ W, W = w1.alloc (.cells #[.int .i64 (F 0), .int .i64 (F 1), .int .i64 (F 2), .int .i64 (F 3), .int .i64 (F 4), .int .i64 (F 5), .int .i64 (F 6), .int .i32 (F 7)] 28) := ⟨_, rfl⟩
  have hbW1 : Below w.heap.size w W1 := by rw [hW1]; exact hb1.alloc hb1.size _
  have hp1 : Per W1 w1.heap.size F := by rw [hW1]; exact heap_alloc_new _ _
  have hlt1 : w1.heap.size < W1.heap.size := by rw [hW1]; simp
  have hc := mb_any w.heap.size F W1 hF h7 hbW1.size
  rw [hW1] at hc
  have HC : Hid (Calls Yba.prog 11 #[.agg #[.int .i64 (F 0), .int .i64 (F 1), .int .i64 (F 2), .int .i64 (F 3), .int .i64 (F 4), .int .i64 (F 5), .int .i64 (F 6), .int .i32 (F 7)]] (w1.alloc (.cells #[.int .i64 (F 0), .int .i64 (F 1), .int .i64 (F 2), .int .i64 (F 3), .int .i64 (F 4), .int .i64 (F 5), .int .i64 (F 6), .int .i32 (F 7)] 28)) (MbPost w.heap.size W1 (binl F))) := by rw [hW1]; exact hc
  clear hc hW1
  go_wp2_with fail
  refine HC.out.mono ?_
  rintro e w2 ⟨m, rfl, hom, hb2⟩
  have hp2 : Per w2 w1.heap.size F := (hb2.block _ hlt1).trans hp1
  have hlt2 : w1.heap.size < w2.heap.size := by have := hb2.size; omega
  have hbw2 : Below w.heap.size w w2 := hbW1.trans (hb2.mono hbW1.size)
  obtain ⟨c0, c1, c2, c3, c4, c5, c6, c7⟩ := hp2.cells
  clear HC hp1 hb1 hbW1 hb2
  go_wp2_with fail
  refine (ab_any w.heap.size (.slice none 0 0) [] F w2 hF h7 (Own.nil _ _) (by simp) hbw2.size).mono ?_
  rintro e w3 ⟨a, rfl, hoa, hs3⟩
  rw [List.nil_append] at hoa
  have hom3 := hom.step hs3 (by cases m.ownBlock <;> simp [Value.ownBlock])
  have hp3 := hp2.kept hs3 (by simp [Value.ownBlock])
  have hbw3 : Below w.heap.size w w3 := hbw2.trans (hs3.below hbw2.size (fun k hk => by simp [Value.ownBlock] at hk))
  clear c0 c1 c2 c3 c4 c5 c6 c7 hs3 hom hp2 hbw2
  go_wp2_with fail
  refine (equal_any w3 m a (binl F) hom3.reads hoa.reads).mono ?_
  rintro e w3' ⟨rfl, rfl⟩
  obtain ⟨v5, w5, hap5, ho5, hs5⟩ := append_own w3 w.heap.size (.slice none 0 0) [] l0 ao cap (Own.nil _ _) hnone (src_below hsrc hbw3) (by simp; omega) hbw3.size
  rw [List.nil_append] at ho5
  have hom5 := hom3.step hs5 (by cases m.ownBlock <;> simp [Value.ownBlock])
  have hp5 := hp3.kept hs5 (by simp [Value.ownBlock])
  have hbw5 : Below w.heap.size w w5 := hbw3.trans (hs5.below hbw3.size (fun k hk => by simp [Value.ownBlock] at hk))
  have hm5 : m.ownBlock = none ∨ m.ownBlock ≠ v5.ownBlock := by
    rcases hs5.own with h | h
    · cases hq : m.ownBlock with
      | none => exact .inl rfl
      | some k => refine .inr ?_; rw [h]; simp [Value.ownBlock]
    · cases hq : m.ownBlock with
      | none => exact .inl rfl
      | some k => refine .inr fun e => ?_; have := h k e.symm; have := (hom3.lt k hq).2; omega
  have hpv : some w1.heap.size ≠ v5.ownBlock := by
    rcases hs5.own with h | h
    · rw [h]; simp [Value.ownBlock]
    · intro e
      have := h _ e.symm
      have h3 := (Array.getElem?_eq_some_iff.1 hp3).1
      omega
  obtain ⟨c0, c1, c2, c3, c4, c5, c6, c7⟩ := hp5.cells
  clear hs5 hom3 hp3 hbw3 hoa
  go_wp2_with (at_builtin; refine wpList_append_run rfl rfl hap5 rfl rfl ?_)
  refine (ab_any w.heap.size v5 l0 F w5 hF h7 ho5 (by omega) hbw5.size).mono ?_
  rintro e w6 ⟨got, rfl, hog, hs6⟩
  have hom6 := hom5.step hs6 hm5
  have hbw6 : Below w.heap.size w w6 := hbw5.trans (hs6.below hbw5.size (fun k hk => (ho5.lt k hk).1))
  have hsrc6 := src_below hsrc hbw6
  clear c0 c1 c2 c3 c4 c5 c6 c7 hap5 hs6 hom5 hp5 hbw5 hm5 hpv ho5
  obtain ⟨g, gc, rfl, hgc, hgm⟩ := hog.form (by simp [binl])
  obtain ⟨mg, mc, rfl, hmc, hmm⟩ := hom6.form (binl_ne F)
  have hrh := reads_head hog
  have hrt := reads_tail (c := gc - l0.length) hog
  have hrp : Reads w6 (.slice ao l0.length cap) l0 := ⟨ao, cap, rfl, fun h => (hnone h).1, hsrc6⟩
  have hbl := binl_len F
  have hb0 : 0 < (binl F).length := by simp [binl]
  have hrm := hom6.reads
  obtain ⟨N, hN⟩ : ∃ N, (l0 ++ binl F).length = N := ⟨_, rfl⟩
  obtain ⟨M, hM⟩ : ∃ M, (binl F).length = M := ⟨_, rfl⟩
  have hNM : N = l0.length + M := by rw [← hN, ← hM, List.length_append]
  rw [hN, hM]
  rw [hN] at hgc
  rw [hM] at hbl hb0 hmc hrt hrm
  unfold maxLen at hgm
  subst hNM
  clear hN hM
  have hne : ¬ gc = l0.length := by omega
  go_wp2_with fail
  refine (equal_any w6 _ _ l0 hrh hrp).mono ?_
  rintro e w7 ⟨rfl, rfl⟩
  go_wp2_with fail
  refine (equal_any w6 _ _ (binl F) hrt hrm).mono ?_
  rintro e w7 ⟨rfl, rfl⟩
  go_wp2
  go_ret
  exact ⟨rfl, hbw6⟩
end Go.Proofs.Ybulkbtda
