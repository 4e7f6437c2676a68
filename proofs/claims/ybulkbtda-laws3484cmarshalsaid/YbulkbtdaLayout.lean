import Derived.Test.YbulkbtdaApp
import Derived.Test.YbulkbtdaEqual
namespace Go.Proofs.Ybulkbtda
open Go.RowKit

def LTruePost (w : World) (e : Ending) (w' : World) : Prop := e = .returned (.bool true) ∧ Below w.heap.size w w'

theorem src_below {w w' : World} {ao : Option Addr} {l : List Int} (h : Src w ao l) (hb : Below w.heap.size w w') : Src w' ao l := by
  intro a ha j hj
  have hc := h a ha j hj
  rw [hb.cell (p := a.add j) (World.block_lt_of_cell? _ _ hc)]
  exact hc

/-- Block b holds the Period. -/
def Per (w : World) (b : Nat) (F : Nat → Int) : Prop := w.heap[b]? = some (.cells #[.int .i64 (F 0), .int .i64 (F 1), .int .i64 (F 2), .int .i64 (F 3), .int .i64 (F 4), .int .i64 (F 5), .int .i64 (F 6), .int .i32 (F 7)] 28 (0, 0))
theorem Per.kept {w w' : World} {b : Nat} {F : Nat → Int} {v v' : Value} (h : Per w b F) (hs : Step w w' v v') (hv : some b ≠ v.ownBlock) : Per w' b F :=
  (hs.grown.block b (Array.getElem?_eq_some_iff.1 h).1 hv).trans h
theorem Per.cells {w : World} {b : Nat} {F : Nat → Int} (h : Per w b F) : w.cell? ⟨b, 0, none⟩ = some (.int .i64 (F 0)) ∧ w.cell? ⟨b, 1, none⟩ = some (.int .i64 (F 1)) ∧ w.cell? ⟨b, 2, none⟩ = some (.int .i64 (F 2)) ∧ w.cell? ⟨b, 3, none⟩ = some (.int .i64 (F 3)) ∧
    w.cell? ⟨b, 4, none⟩ = some (.int .i64 (F 4)) ∧ w.cell? ⟨b, 5, none⟩ = some (.int .i64 (F 5)) ∧ w.cell? ⟨b, 6, none⟩ = some (.int .i64 (F 6)) ∧ w.cell? ⟨b, 7, none⟩ = some (.int .i32 (F 7)) :=
  ⟨(cell_of_row w _ 0 _ _ _ h).trans rfl, (cell_of_row w _ 1 _ _ _ h).trans rfl, (cell_of_row w _ 2 _ _ _ h).trans rfl, (cell_of_row w _ 3 _ _ _ h).trans rfl,
   (cell_of_row w _ 4 _ _ _ h).trans rfl, (cell_of_row w _ 5 _ _ _ h).trans rfl, (cell_of_row w _ 6 _ _ _ h).trans rfl, (cell_of_row w _ 7 _ _ _ h).trans rfl⟩
/-- Block b holds the eight fields. -/
def Fld (w : World) (b : Nat) (F : Nat → Int) : Prop := w.heap[b]? = some (.cells #[.int .i64 (F 0), .int .i64 (F 1), .int .i64 (F 2), .int .i64 (F 3), .int .i64 (F 4), .int .i64 (F 5), .int .i64 (F 6), .int .i64 (F 7)] 34 (0, 0))
theorem Fld.kept {w w' : World} {b : Nat} {F : Nat → Int} {v v' : Value} (h : Fld w b F) (hs : Step w w' v v') (hv : some b ≠ v.ownBlock) : Fld w' b F :=
  (hs.grown.block b (Array.getElem?_eq_some_iff.1 h).1 hv).trans h
theorem Fld.cell {w : World} {b : Nat} {F : Nat → Int} (h : Fld w b F) (k : Nat) (hk : k < 8) : w.cell? ⟨b, k, none⟩ = some (.int .i64 (F k)) := by
  rw [cell_of_row w _ k _ _ _ h]
  rcases (by omega : k = 0 ∨ k = 1 ∨ k = 2 ∨ k = 3 ∨ k = 4 ∨ k = 5 ∨ k = 6 ∨ k = 7) with rfl | rfl | rfl | rfl | rfl | rfl | rfl | rfl <;> rfl
theorem Own.step {w w' : World} {base : Nat} {v u u' : Value} {l : List Int} (h : Own w base v l) (hs : Step w w' u u') (hne : v.ownBlock = none ∨ v.ownBlock ≠ u.ownBlock) : Own w' base v l := h.kept hs.grown hne

set_option maxHeartbeats 2000000 in
theorem layout_any (F : Nat → Int) (ao : Option Addr) (l0 : List Int) (cap : Nat) (w : World) (hF : ∀ k, -9223372036854775808 ≤ F k ∧ F k ≤ 9223372036854775807) (h7 : -2147483648 ≤ F 7 ∧ F 7 ≤ 2147483647) (hl63 : l0.length ≤ 9223372036854775807) (hnone : ao = none → l0 = [] ∧ cap = 0) (hsrc : Src w ao l0) :
    Calls Yba.prog 4 #[.int .i64 (F 0), .int .i64 (F 1), .int .i64 (F 2), .int .i64 (F 3), .int .i64 (F 4), .int .i64 (F 5), .int .i64 (F 6), .int .i32 (F 7), .slice ao l0.length cap] w (LTruePost w) := by
  by_cases h1 : (4096 : Int) < (l0.length : Int)
  · go_enter Yba.func4, Yba.ntmps4
    go_wp2
    go_ret
    exact ⟨rfl, Below.refl _ _⟩
  have hll : l0.length ≤ 4096 := by omega
  go_enter Yba.func4, Yba.ntmps4
  go_wp2_with fail
  refine (period_any (F 0) (F 1) (F 2) (F 3) (F 4) (F 5) (F 6) (F 7) w).mono ?_
  rintro e w1 ⟨rfl, hb1⟩
  obtain ⟨W1, hW1⟩ : ∃ W, W = w1.alloc (.cells #[.int .i64 (F 0), .int .i64 (F 1), .int .i64 (F 2), .int .i64 (F 3), .int .i64 (F 4), .int .i64 (F 5), .int .i64 (F 6), .int .i32 (F 7)] 28) := ⟨_, rfl⟩
  have hbW1 : Below w.heap.size w W1 := by rw [hW1]; exact hb1.alloc hb1.size _
  obtain ⟨v2, w2, hap2, ho2, hs2⟩ := append_own W1 w.heap.size (.slice none 0 0) [] l0 ao cap (Own.nil _ _) hnone (src_below hsrc hbW1) (by simp; omega) hbW1.size
  rw [List.nil_append] at ho2
  have hap2' := hap2
  rw [hW1] at hap2'
  have hp1 : Per W1 w1.heap.size F := by rw [hW1]; exact heap_alloc_new _ _
  obtain ⟨c0, c1, c2, c3, c4, c5, c6, c7⟩ := (hp1.kept hs2 (by simp [Value.ownBlock])).cells
  have hbw2 : Below w.heap.size w w2 := hbW1.trans (hs2.below hbW1.size (fun k hk => by simp [Value.ownBlock] at hk))
  clear hW1 hap2 hs2 hp1 hb1
  go_wp2_with (at_builtin; refine wpList_append_run rfl rfl hap2' rfl rfl ?_)
  refine (ab_any w.heap.size v2 l0 F w2 hF h7 ho2 (by omega) hbw2.size).mono ?_
  rintro e w3 ⟨v3, rfl, ho3, hs3⟩
  have hbw3 : Below w.heap.size w w3 := hbw2.trans (hs3.below hbw2.size (fun k hk => (ho2.lt k hk).1))
  clear c0 c1 c2 c3 c4 c5 c6 c7 hap2' hs3 ho2 hbW1 hbw2
  obtain ⟨W4, hW4⟩ : ∃ W, W = w3.alloc (.cells #[.int .i64 (F 0), .int .i64 (F 1), .int .i64 (F 2), .int .i64 (F 3), .int .i64 (F 4), .int .i64 (F 5), .int .i64 (F 6), .int .i64 (F 7)] 34) := ⟨_, rfl⟩
  have hbW4 : Below w.heap.size w W4 := by rw [hW4]; exact hbw3.alloc hbw3.size _
  have hf4 : Fld W4 w3.heap.size F := by rw [hW4]; exact heap_alloc_new _ _
  have ho4 : Own W4 w.heap.size v3 (l0 ++ binl F) := by rw [hW4]; exact ho3.below ((Below.refl _ _).alloc (Nat.le_refl _) _)
  obtain ⟨v5, w5, hap5, ho5, hs5⟩ := append_own W4 w.heap.size (.slice none 0 0) [] l0 ao cap (Own.nil _ _) hnone (src_below hsrc hbW4) (by simp; omega) hbW4.size
  rw [List.nil_append] at ho5
  have hap5' := hap5
  rw [hW4] at hap5'
  clear hap5 hW4 ho3 hbw3
  go_wp2_with (at_builtin; refine wpList_append_run rfl rfl hap5' rfl rfl ?_)
  clear hap5'
  obtain ⟨B3, hB3⟩ : ∃ B3, w3.heap.size = B3 := ⟨_, rfl⟩
  rw [hB3] at hf4 ⊢
  clear hB3
  go_loopg [25, 26] 8 (fun g vp vk wr => ∃ k : Nat, k ≤ 8 ∧ g = 8 - k ∧ vk = .int .i64 k ∧ vp = .int .u8 (prs F k) ∧ w5 = wr)
  case atStart => exact ⟨0, by omega, rfl, rfl, rfl, rfl⟩
  case round =>
    obtain ⟨k, hk, rfl, rfl, rfl, rfl⟩ := hrel
    by_cases hlt : k < 8
    · have hck := (hf4.kept hs5 (by simp [Value.ownBlock])).cell k hlt
      have hkk : (k : Int) < 8 := by omega
      by_cases h0 : F k = 0
      · have h0' : (F k != 0) = false := by simp [h0]
        have HP : Hid (prs F (k + 1) = prs F k) := prs_no h0
        clear h0
        go_wp2
        go_roundg (8 - (k + 1))
        case measure => omega
        case rel => exact ⟨k + 1, by omega, rfl, by go_num, by rw [HP.out], rfl⟩
      · have h0' : (F k != 0) = true := by simp [h0]
        have HP : Hid (prs F (k + 1) = _) := prs_yes h0
        clear h0
        go_wp2
        go_roundg (8 - (k + 1))
        case measure => omega
        case rel => exact ⟨k + 1, by omega, rfl, by go_num, by rw [HP.out], rfl⟩
    · obtain rfl : k = 8 := by omega
      obtain ⟨v6, w6, hap6, ho6, hs6⟩ := append_two w5 w.heap.size v5 l0 1 (prs F 8) ho5 (by omega) (Nat.le_trans hbW4.size hs5.grown.size)
      have hs46 := hs5.trans hs6
      clear hs5 hs6 ho5
      go_wp2_with (at_builtin; refine wpList_append_run rfl rfl hap6 rfl rfl ?_)
      clear hap6
      go_loopg [24, 27] 8 (fun g vv vk wr => ∃ (k : Nat) (v' : Value), k ≤ 8 ∧ g = 8 - k ∧ vk = .int .i64 k ∧ vv = v' ∧ Own wr w.heap.size v' (l0 ++ [1, prs F 8] ++ encl F k) ∧ Step W4 wr (.slice none 0 0) v')
      case atStart => exact ⟨0, v6, by omega, rfl, rfl, rfl, by simpa [encl] using ho6, hs46⟩
      case round =>
        clear ho6 hs46
        obtain ⟨k, v', hk, rfl, rfl, rfl, hO, hS⟩ := hrel
        by_cases hlt : k < 8
        · have hck := (hf4.kept hS (by simp [Value.ownBlock])).cell k hlt
          have hkk : (k : Int) < 8 := by omega
          have hel := encl_len F k
          by_cases h0 : F k = 0
          · have h0' : (F k != 0) = false := by simp [h0]
            rw [← encl_no h0] at hO
            clear h0
            go_wp2
            go_roundg (8 - (k + 1))
            case measure => omega
            case rel => exact ⟨k + 1, _, by omega, rfl, by go_num, rfl, hO, hS⟩
          · have h0' : (F k != 0) = true := by simp [h0]
            have hfk := hF k
            have hc := zv_any w.heap.size u24 (l0 ++ [1, prs F 8] ++ encl F k) (F k) wr hfk.1 hfk.2 hO (by simp; omega) (Nat.le_trans hbW4.size hS.grown.size)
            rw [List.append_assoc, List.append_assoc, ← encl_yes h0] at hc
            have HC : Hid (Calls Yba.prog 9 #[u24, .int .i64 (F k)] wr (AppPost w.heap.size wr u24 (l0 ++ [1, prs F 8] ++ encl F (k + 1)))) := by rw [List.append_assoc]; exact hc
            clear h0 hc hO
            go_wp2_with fail
            refine HC.out.mono ?_
            rintro e w7 ⟨v7, rfl, ho7, hs7⟩
            go_wp2
            go_roundg (8 - (k + 1))
            case measure => omega
            case rel => exact ⟨k + 1, _, by omega, rfl, by go_num, rfl, ho7, hS.trans hs7⟩
        · obtain rfl : k = 8 := by omega
          have hO' : Own wr w.heap.size u24 (l0 ++ binl F) := by rw [binl, ← List.append_assoc]; exact hO
          have hO3 := ho4.step hS (by cases v3.ownBlock <;> simp [Value.ownBlock])
          have hbr : Below w.heap.size w wr := hbW4.trans (hS.below hbW4.size (fun k hk => by simp [Value.ownBlock] at hk))
          go_wp2_with fail
          refine (equal_any wr v3 u24 (l0 ++ binl F) hO3.reads hO'.reads).mono ?_
          rintro e w8 ⟨rfl, rfl⟩
          go_wp2
          go_ret
          exact ⟨rfl, hbr⟩
end Go.Proofs.Ybulkbtda
