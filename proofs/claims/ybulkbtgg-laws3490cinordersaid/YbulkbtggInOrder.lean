import Derived.Test.YbulkbtggState
namespace Go.Proofs.Ybulkbtgg
open Go.RowKit Plain

set_option maxHeartbeats 1000000 in
theorem inorder_any (wv : Int) (n : Nat) (w : World) (hwv : 0 ≤ wv ∧ wv ≤ 255) (hn : n ≤ 65535) : Calls Yba.prog 3 #[.int .u8 wv, .int .u16 (n : Int)] w (TruePost w) := by
  by_cases hbig : 1024 < n
  · go_enter Yba.func3, Yba.ntmps3
    go_wp2
    go_ret
    exact ⟨rfl, Below.refl _ _⟩
  · obtain ⟨wd, hwd⟩ : ∃ wd : Nat, wv % 8 = (wd : Int) := ⟨(wv % 8).toNat, by omega⟩
    have hwd8 : wd < 8 := by omega
    have st := Lv.start w wd
    by_cases hw0 : 0 < wd
    · obtain ⟨W0, hW0⟩ : ∃ W0, W0 = w.alloc (.cells #[.int .i64 (wd : Int), .slice none 0 0, .slice none 0 0, .slice none 0 0, .int .i64 0] 27) := ⟨_, rfl⟩
      rw [← hW0] at st
      obtain ⟨R, hR⟩ : ∃ R, w.heap.size = R := ⟨_, rfl⟩
      go_enter Yba.func3, Yba.ntmps3
      go_wp2
      rw [hR] at st
      rw [← hW0]
      have HR : Hid (w.heap.size = R) := hR
      clear hW0 hR hwd
      go_loopg [7, 8] n (fun gg v7 v8 wr => ∃ (k : Nat) (cs : List (Nat × Nat)) (mv rv : Value) (a : Option Addr) (c : Nat), k ≤ n ∧ gg = n - k ∧ v7 = .slice a k c ∧ v8 = .int .i64 (k : Int) ∧ Lv w wr R (R + 1) wd k k cs mv rv (.slice a k c))
      case atStart => exact ⟨0, [], _, _, none, 0, by omega, rfl, rfl, rfl, st⟩
      case round =>
        clear st
        obtain ⟨k, cs, mv, rv, a, c, hk, rfl, rfl, rfl, h⟩ := hrel
        by_cases hkn : k < n
        · go_wp2_with fail
          refine (next_lv ⟨hw0, hwd8⟩ (by omega) h).mono ?_
          rintro e w1 ⟨pre, g, s, o, mv1, rv1, rfl, ho, hk1, h1⟩
          obtain ⟨v2, w2, hap, h2⟩ := push_lv (by omega) ho hk1 h1
          obtain ⟨a2, c2, e2⟩ := h2.ptr.form
          rw [pl_len] at e2
          subst e2
          have HK : Hid (k = tot pre + o) := hk1
          clear hk1 h h1
          go_wp2_with (at_builtin; refine wpList_append_run rfl rfl rfl hap rfl rfl ?_)
          refine (add_lv ⟨hw0, hwd8⟩ (by omega) ho HK.out h2).mono ?_
          rintro e w3 ⟨rfl, rv3, h3⟩
          clear h2 hap
          go_wp2
          go_roundg (n - (k + 1))
          case measure => omega
          case rel => exact ⟨k + 1, _, _, _, a2, c2, by omega, rfl, rfl, by go_num, h3⟩
        · obtain rfl : k = n := by omega
          go_wp2_with fail
          refine (rows_any wr R (R + 1) wd k cs mv rv ⟨hw0, hwd8⟩ (by omega) h.rs).mono ?_
          rintro e w1 ⟨v, rfl, hb1, hv⟩
          go_wp2_with fail
          refine (check_lv ⟨hw0, hwd8⟩ (by omega) h hb1 hv).mono ?_
          rintro e w2 ⟨rfl, hb2⟩
          go_wp2
          go_ret
          exact ⟨rfl, past (past h.below hb1) hb2⟩
    · obtain rfl : wd = 0 := by omega
      have st0 : Rz (w.alloc (.cells #[.int .i64 0, .slice none 0 0, .slice none 0 0, .slice none 0 0, .int .i64 0] 27)) w.heap.size (w.heap.size + 1) 0 := st.rs.rc
      have stb := st.below
      obtain ⟨W0, hW0⟩ : ∃ W0, W0 = w.alloc (.cells #[.int .i64 0, .slice none 0 0, .slice none 0 0, .slice none 0 0, .int .i64 0] 27) := ⟨_, rfl⟩
      have hwd' : wv % 8 = 0 := hwd
      have stb' : Below w.heap.size w W0 := by rw [hW0]; exact stb
      rw [← hW0] at st0
      obtain ⟨R, hR⟩ : ∃ R, w.heap.size = R := ⟨_, rfl⟩
      clear st hwd stb
      go_enter Yba.func3, Yba.ntmps3
      go_wp2
      rw [← hW0]
      rw [hR] at st0
      have HR : Hid (w.heap.size = R) := hR
      clear hW0 hR hwd'
      go_loopg [7, 8] n (fun gg v7 v8 wr => ∃ k : Nat, k ≤ n ∧ gg = n - k ∧ v7 = .slice none 0 0 ∧ v8 = .int .i64 (k : Int) ∧ Rz wr R (R + 1) k ∧ Below w.heap.size w wr)
      case atStart => exact ⟨0, by omega, rfl, rfl, rfl, st0, stb'⟩
      case round =>
        clear st0 stb'
        obtain ⟨k, hk, rfl, rfl, rfl, h, hb⟩ := hrel
        by_cases hkn : k < n
        · go_wp2_with fail
          refine (next_zero wr R (R + 1) k h).mono ?_
          rintro e w1 ⟨rfl, hb1⟩
          go_wp2_with fail
          refine (add_zero w1 R (R + 1) k (by omega) (h.below (hb1.mono h.size))).mono ?_
          rintro e w2 ⟨rfl, h2, hfr⟩
          have hb2 : Below w.heap.size w w2 := (past hb hb1).trans (hfr.below (by rw [HR.out]; exact Nat.le_refl _) (past hb hb1).size (fun b hb => by simp [Value.ownBlock] at hb))
          go_wp2
          go_roundg (n - (k + 1))
          case measure => omega
          case rel => exact ⟨k + 1, by omega, rfl, rfl, by go_num, h2, hb2⟩
        · obtain rfl : k = n := by omega
          go_wp2_with fail
          refine (rows_zero wr R (R + 1) k (by omega) h).mono ?_
          rintro e w1 ⟨v, rfl, hb1, hv⟩
          go_wp2_with fail
          refine (check_zero (by omega) hv _).mono ?_
          rintro e w2 ⟨rfl, hb2⟩
          go_wp2
          go_ret
          exact ⟨rfl, past (past hb hb1) hb2⟩
end Go.Proofs.Ybulkbtgg
