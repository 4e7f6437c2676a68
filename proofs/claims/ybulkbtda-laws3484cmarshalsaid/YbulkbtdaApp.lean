import Derived.Test.YbulkbtdaVar
import Derived.Test.YbulkbtdaBin
namespace Go.Proofs.Ybulkbtda
open Go.RowKit

theorem index8 (F : Nat → Int) (k : Nat) (hk : k < 8) (w : World) :
    (Instr.index 34 (.agg #[.int .i64 (F 0), .int .i64 (F 1), .int .i64 (F 2), .int .i64 (F 3), .int .i64 (F 4), .int .i64 (F 5), .int .i64 (F 6), .int .i64 (F 7)]) (.int .i64 (k : Int))).run Yba.prog w = .ok (.int .i64 (F k)) w := by
  rcases (by omega : k = 0 ∨ k = 1 ∨ k = 2 ∨ k = 3 ∨ k = 4 ∨ k = 5 ∨ k = 6 ∨ k = 7) with rfl | rfl | rfl | rfl | rfl | rfl | rfl | rfl <;> kernel_rfl

/-- The byte that marks the fields that are not nought. -/
def prs (F : Nat → Int) : Nat → Int
  | 0 => 0
  | k + 1 => if F k = 0 then prs F k else bits BinOp.or IntKind.u8 (prs F k) (2 ^ k % 256)
theorem prs_no {F : Nat → Int} {k : Nat} (h : F k = 0) : prs F (k + 1) = prs F k := by show (if _ then _ else _) = _; rw [if_pos h]
theorem prs_yes {F : Nat → Int} {k : Nat} (h : F k ≠ 0) : prs F (k + 1) = bits BinOp.or IntKind.u8 (prs F k) (2 ^ k % 256) := by show (if _ then _ else _) = _; rw [if_neg h]
/-- The fields that are not nought. -/
def encl (F : Nat → Int) : Nat → List Int
  | 0 => []
  | k + 1 => encl F k ++ if F k = 0 then [] else uvl 10 (zzg (F k))
theorem encl_no {F : Nat → Int} {k : Nat} (h : F k = 0) : encl F (k + 1) = encl F k := by show _ ++ (if _ then _ else _) = _; rw [if_pos h, List.append_nil]
theorem encl_yes {F : Nat → Int} {k : Nat} (h : F k ≠ 0) : encl F (k + 1) = encl F k ++ uvl 10 (zzg (F k)) := by show _ ++ (if _ then _ else _) = _; rw [if_neg h]
theorem encl_len (F : Nat → Int) : ∀ k, (encl F k).length ≤ 11 * k
  | 0 => by simp [encl]
  | k + 1 => by
    have ih := encl_len F k
    have hu := uvl_len 10 (zzg (F k))
    by_cases h : F k = 0
    · rw [encl_no h]; omega
    · rw [encl_yes h, List.length_append]; omega
/-- The binary form. -/
def binl (F : Nat → Int) : List Int := [1, prs F 8] ++ encl F 8
theorem binl_len (F : Nat → Int) : (binl F).length ≤ 90 := by have := encl_len F 8; simp [binl]; omega

/-- 'append(v, a, b)'. -/
theorem append_two (w : World) (base : Nat) (v : Value) (l : List Int) (a b : Int) (hown : Own w base v l) (hsz : l.length + 2 ≤ 100000) (hbase : base ≤ w.heap.size) :
    ∃ v' w', (∀ ty, (Builtin.append_ #[22, 22] ty #[v, .slice (some ⟨w.heap.size, 0, none⟩) 2 2]).run Yba.prog (w.alloc (.cells #[.int .u8 a, .int .u8 b] 5)) = .ok v' w') ∧ Own w' base v' (l ++ [a, b]) ∧ Step w w' v v' := by
  obtain ⟨v', w', h1, h2, h3⟩ := append_own (w.alloc (.cells #[.int .u8 a, .int .u8 b] 5)) base v l [a, b] (some ⟨w.heap.size, 0, none⟩) 2 (hown.below ((Below.refl _ _).alloc (Nat.le_refl _) _)) (fun h => by cases h)
    (fun ad ha j hj => by
      obtain rfl := Option.some.inj ha
      have hj2 : j < 2 := by simpa using hj
      rw [Addr.add_lit]
      rcases (by omega : j = 0 ∨ j = 1) with rfl | rfl
      · simp
      · simp) (by simpa using hsz) (by simp; omega)
  exact ⟨v', w', h1, h2, (Step.alloc w v _).trans h3⟩

def AbPost (base : Nat) (w : World) (v : Value) (l : List Int) (e : Ending) (w' : World) : Prop :=
  ∃ v', e = .returned (.tuple #[v', .nilIface]) ∧ Own w' base v' l ∧ Step w w' v v'

set_option maxHeartbeats 1000000 in
theorem ab_any (base : Nat) (v : Value) (l : List Int) (F : Nat → Int) (w : World) (hF : ∀ k, -9223372036854775808 ≤ F k ∧ F k ≤ 9223372036854775807) (h7 : -2147483648 ≤ F 7 ∧ F 7 ≤ 2147483647) (hown : Own w base v l) (hsz : l.length ≤ 10000) (hbase : base ≤ w.heap.size) :
    Calls Yba.prog 8 #[.agg #[.int .i64 (F 0), .int .i64 (F 1), .int .i64 (F 2), .int .i64 (F 3), .int .i64 (F 4), .int .i64 (F 5), .int .i64 (F 6), .int .i32 (F 7)], v] w (AbPost base w v (l ++ binl F)) := by
  go_enter Yba.func8, Yba.ntmps8
  go_wp2_with fail
  refine (fields_any (F 0) (F 1) (F 2) (F 3) (F 4) (F 5) (F 6) (F 7) h7 _).mono ?_
  rintro e w1 ⟨rfl, hb1⟩
  have hbw1 : Below w.heap.size w w1 := ((Below.refl _ _).alloc (Nat.le_refl _) _).trans (hb1.mono (by simp))
  have hs1 : Step w w1 v v := Step.new v hbw1
  have ho1 := hown.below hbw1
  have hvb : some w1.heap.size ≠ v.ownBlock := fun e => by have h := hown.lt _ e.symm; have := hbw1.size; omega
  clear hb1 hbw1 hown
  go_wp2
  obtain ⟨W, hW⟩ : ∃ W, W = w1.alloc (.cells #[.int .i64 (F 0), .int .i64 (F 1), .int .i64 (F 2), .int .i64 (F 3), .int .i64 (F 4), .int .i64 (F 5), .int .i64 (F 6), .int .i64 (F 7)] 34) := ⟨_, rfl⟩
  have hsW : Step w W v v := by rw [hW]; exact hs1.trans (Step.alloc w1 v _)
  have hoW : Own W base v l := by rw [hW]; exact ho1.below ((Below.refl _ _).alloc (Nat.le_refl _) _)
  have hrow : W.heap[w1.heap.size]? = some (.cells #[.int .i64 (F 0), .int .i64 (F 1), .int .i64 (F 2), .int .i64 (F 3), .int .i64 (F 4), .int .i64 (F 5), .int .i64 (F 6), .int .i64 (F 7)] 34 (0, 0)) := by rw [hW]; exact heap_alloc_new _ _
  rw [← hW]
  clear hW hs1 ho1
  go_loopg [7, 15] 8 (fun g vp vk wr => ∃ k : Nat, k ≤ 8 ∧ g = 8 - k ∧ vk = .int .i64 k ∧ vp = .int .u8 (prs F k) ∧ W = wr)
  case atStart => exact ⟨0, by omega, rfl, rfl, rfl, rfl⟩
  case round =>
    obtain ⟨k, hk, rfl, rfl, rfl, rfl⟩ := hrel
    by_cases hlt : k < 8
    · have hix := index8 F k hlt
      by_cases h0 : F k = 0
      · have h0' : (F k != 0) = false := by simp [h0]
        have HP : Hid (prs F (k + 1) = prs F k) := prs_no h0
        clear h0
        go_wp2
        go_roundg (8 - (k + 1))
        case measure => omega
        case rel => exact ⟨k + 1, by omega, rfl, by go_num, by rw [HP.out], rfl⟩
      · have h0' : (F k != 0) = true := by simp [h0]
        have HP : Hid (prs F (k + 1) = _) := prs_yes h0
        clear h0
        go_wp2
        go_roundg (8 - (k + 1))
        case measure => omega
        case rel => exact ⟨k + 1, by omega, rfl, by go_num, by rw [HP.out], rfl⟩
    · obtain rfl : k = 8 := by omega
      obtain ⟨v2, w2, hap, ho2, hs2⟩ := append_two W base v l 1 (prs F 8) hoW (by omega) (Nat.le_trans hbase hsW.grown.size)
      have hsw2 := hsW.trans hs2
      have hrow2 : w2.heap[w1.heap.size]? = some (.cells #[.int .i64 (F 0), .int .i64 (F 1), .int .i64 (F 2), .int .i64 (F 3), .int .i64 (F 4), .int .i64 (F 5), .int .i64 (F 6), .int .i64 (F 7)] 34 (0, 0)) := by
        rw [hs2.grown.block _ (Array.getElem?_eq_some_iff.1 hrow).1 hvb]; exact hrow
      have c0 : w2.cell? ⟨w1.heap.size, 0, none⟩ = some (.int .i64 (F 0)) := (cell_of_row w2 _ 0 _ _ _ hrow2).trans rfl
      have c1 : w2.cell? ⟨w1.heap.size, 1, none⟩ = some (.int .i64 (F 1)) := (cell_of_row w2 _ 1 _ _ _ hrow2).trans rfl
      have c2 : w2.cell? ⟨w1.heap.size, 2, none⟩ = some (.int .i64 (F 2)) := (cell_of_row w2 _ 2 _ _ _ hrow2).trans rfl
      have c3 : w2.cell? ⟨w1.heap.size, 3, none⟩ = some (.int .i64 (F 3)) := (cell_of_row w2 _ 3 _ _ _ hrow2).trans rfl
      have c4 : w2.cell? ⟨w1.heap.size, 4, none⟩ = some (.int .i64 (F 4)) := (cell_of_row w2 _ 4 _ _ _ hrow2).trans rfl
      have c5 : w2.cell? ⟨w1.heap.size, 5, none⟩ = some (.int .i64 (F 5)) := (cell_of_row w2 _ 5 _ _ _ hrow2).trans rfl
      have c6 : w2.cell? ⟨w1.heap.size, 6, none⟩ = some (.int .i64 (F 6)) := (cell_of_row w2 _ 6 _ _ _ hrow2).trans rfl
      have c7 : w2.cell? ⟨w1.heap.size, 7, none⟩ = some (.int .i64 (F 7)) := (cell_of_row w2 _ 7 _ _ _ hrow2).trans rfl
      clear hrow hrow2 hs2 hoW hsW hvb
      go_wp2_with (at_builtin; refine wpList_append_run rfl rfl hap rfl rfl ?_)
      clear c0 c1 c2 c3 c4 c5 c6 c7 hap
      go_loopg [1, 31] 8 (fun g vv vk wr => ∃ (k : Nat) (v' : Value), k ≤ 8 ∧ g = 8 - k ∧ vk = .int .i64 k ∧ vv = v' ∧ Own wr base v' (l ++ [1, prs F 8] ++ encl F k) ∧ Step w wr v v')
      case atStart => exact ⟨0, v2, by omega, rfl, rfl, rfl, by simpa [encl] using ho2, hsw2⟩
      case round =>
        clear ho2 hsw2
        obtain ⟨k, v', hk, rfl, rfl, rfl, hO, hS⟩ := hrel
        by_cases hlt : k < 8
        · have hix := index8 F k hlt
          have hel := encl_len F k
          by_cases h0 : F k = 0
          · have h0' : (F k != 0) = false := by simp [h0]
            rw [← encl_no h0] at hO
            clear h0
            go_wp2
            go_roundg (8 - (k + 1))
            case measure => omega
            case rel => exact ⟨k + 1, _, by omega, rfl, by go_num, rfl, hO, hS⟩
          · have h0' : (F k != 0) = true := by simp [h0]
            have hfk := hF k
            have hc := av_any base u1 (l ++ [1, prs F 8] ++ encl F k) (F k) wr hfk.1 hfk.2 hO (by simp; omega) (Nat.le_trans hbase hS.grown.size)
            rw [List.append_assoc, List.append_assoc, ← encl_yes h0] at hc
            have HC : Hid (Calls Yba.prog 14 #[u1, .int .i64 (F k)] wr (AppPost base wr u1 (l ++ [1, prs F 8] ++ encl F (k + 1)))) := by rw [List.append_assoc]; exact hc
            clear h0 hc hO
            go_wp2_with fail
            refine HC.out.mono ?_
            rintro e w3 ⟨v3, rfl, ho3, hs3⟩
            go_wp2
            go_roundg (8 - (k + 1))
            case measure => omega
            case rel => exact ⟨k + 1, _, by omega, rfl, by go_num, rfl, ho3, hS.trans hs3⟩
        · obtain rfl : k = 8 := by omega
          go_wp2
          go_ret2
          exact ⟨_, rfl, by rw [binl, ← List.append_assoc]; exact hO, hS⟩
end Go.Proofs.Ybulkbtda
