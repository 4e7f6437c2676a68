import Derived.Test.YbulkbtggState
namespace Go.Proofs.Ybulkbtgg
open Go.RowKit Plain

/-- The slice with address 'ao' and length n, an argument, reads as the bytes f 0, f 1, .. -/
def Bytes8 (w : World) (ao : Option Addr) (n : Nat) (f : Nat → Int) : Prop :=
  ∃ b off, (0 < n → ao = some ⟨b, off, none⟩) ∧ ∀ j, j < n → w.cell? ⟨b, off + j, none⟩ = some (.int .u8 (f j)) ∧ 0 ≤ f j ∧ f j ≤ 255

theorem Free.form {wd k : Nat} {cs : List (Nat × Nat)} {rv : Value} (h : Free wd cs k rv) : ∃ a n c, rv = .slice a n c := by
  rcases h with ⟨_, _, h⟩ | ⟨_, _, _, _, _, _, _, _, h, _⟩
  · exact ⟨_, _, _, h⟩
  · exact ⟨_, _, _, h⟩

set_option maxHeartbeats 2000000 in
theorem inter_pos (wv : Int) (ao : Option Addr) (n cap wd : Nat) (f : Nat → Int) (w : World) (hwv : 0 ≤ wv ∧ wv ≤ 255) (hn : n ≤ 1024) (hwd : wv % 8 = (wd : Int)) (hw0 : 0 < wd) (hwd8 : wd < 8) (ha : Bytes8 w ao n f) :
    Calls Yba.prog 4 #[.int .u8 wv, .slice ao n cap] w (TruePost w) := by
  have st := Lv.start w wd
  obtain ⟨W0, hW0⟩ : ∃ W0, W0 = w.alloc (.cells #[.int .i64 (wd : Int), .slice none 0 0, .slice none 0 0, .slice none 0 0, .int .i64 0] 27) := ⟨_, rfl⟩
  rw [← hW0] at st
  obtain ⟨R, hR⟩ : ∃ R, w.heap.size = R := ⟨_, rfl⟩
  go_enter Yba.func4, Yba.ntmps4
  go_wp2
  rw [hR] at st
  rw [← hW0]
  clear hW0 hR hwd
  go_loopg [7, 8, 26] n (fun gg v7 v8 v26 wr => ∃ (i k : Nat) (cs : List (Nat × Nat)) (mv rv : Value) (a : Option Addr) (c : Nat), i ≤ n ∧ k ≤ i ∧ gg = n - i ∧ v7 = .slice a k c ∧ v8 = .int .i64 (k : Int) ∧ v26 = .int .i64 (i : Int) ∧ Lv w wr R (R + 1) wd k k cs mv rv (.slice a k c))
  case atStart => exact ⟨0, 0, [], _, _, none, 0, by omega, by omega, rfl, rfl, rfl, rfl, st⟩
  case round =>
    clear st
    obtain ⟨i, k, cs, mv, rv, a, c, hi, hki, rfl, rfl, rfl, rfl, h⟩ := hrel
    by_cases hin : i < n
    · obtain ⟨b, off, hab, hac⟩ := id ha
      obtain rfl := hab (by omega)
      obtain ⟨hcell, hz0, hz1⟩ := hac i hin
      have kc := bc h.below hcell
      obtain ⟨z, hz⟩ : ∃ z, f i = z := ⟨_, rfl⟩
      rw [hz] at kc hz0 hz1
      clear hab hac hcell hz
      rcases (by omega : z % 3 = 0 ∨ z % 3 = 1 ∨ z % 3 = 2) with e | e | e
      · have t0 : (z % 3 == 0) = true := by simp [e]
        clear e
        go_wp2_with fail
        refine (next_lv ⟨hw0, hwd8⟩ (by omega) h).mono ?_
        rintro e w1 ⟨pre, g, s, o, mv1, rv1, rfl, ho, hk1, h1⟩
        obtain ⟨v2, w2, hap, h2⟩ := push_lv (by omega) ho hk1 h1
        obtain ⟨a2, c2, e2⟩ := h2.ptr.form
        rw [pl_len] at e2
        subst e2
        have HK : Hid (k = tot pre + o) := hk1
        clear hk1 h h1 kc
        go_wp2_with (at_builtin; refine wpList_append_run rfl rfl rfl hap rfl rfl ?_)
        refine (add_lv ⟨hw0, hwd8⟩ (by omega) ho HK.out h2).mono ?_
        rintro e w3 ⟨rfl, rv3, h3⟩
        clear h2 hap
        go_wp2
        go_roundg (n - (i + 1))
        case measure => omega
        case rel => exact ⟨i + 1, k + 1, _, _, _, a2, c2, by omega, by omega, rfl, rfl, by go_num, by go_num, h3⟩
      · have t0 : (z % 3 == 0) = false := by simp [e]
        have t1 : (z % 3 == 1) = true := by simp [e]
        clear e
        go_wp2_with fail
        refine (next_lv ⟨hw0, hwd8⟩ (by omega) h).mono ?_
        rintro e w1 ⟨pre, g, s, o, mv1, rv1, rfl, ho, hk1, h1⟩
        clear h kc hk1
        go_wp2
        go_roundg (n - (i + 1))
        case measure => omega
        case rel => exact ⟨i + 1, k, _, _, _, a, c, by omega, by omega, rfl, rfl, rfl, by go_num, h1⟩
      · have t0 : (z % 3 == 0) = false := by simp [e]
        have t1 : (z % 3 == 1) = false := by simp [e]
        clear e
        obtain ⟨ra, rn, rc, rfl⟩ := h.rs.free.form
        have c3 := h.rs.rc.c3
        go_wp2_with fail
        refine (rows_any wr R (R + 1) wd k cs mv _ ⟨hw0, hwd8⟩ (by omega) h.rs).mono ?_
        rintro e w1 ⟨v, rfl, hb1, hv⟩
        have d3 := bc hb1 h.rs.rc.c3
        have d4 := bc hb1 h.rs.rc.c4
        clear c3 kc
        go_wp2_with fail
        refine (check_lv ⟨hw0, hwd8⟩ (by omega) h hb1 hv).mono ?_
        rintro e w2 ⟨rfl, hb2⟩
        have h2 := (h.later hb1).later hb2
        clear h hv d3 d4
        go_wp2
        go_roundg (n - (i + 1))
        case measure => omega
        case rel => exact ⟨i + 1, k, _, _, _, a, c, by omega, by omega, rfl, rfl, rfl, by go_num, h2⟩
    · obtain rfl : i = n := by omega
      go_wp2_with fail
      refine (rows_any wr R (R + 1) wd k cs mv rv ⟨hw0, hwd8⟩ (by omega) h.rs).mono ?_
      rintro e w1 ⟨v, rfl, hb1, hv⟩
      go_wp2_with fail
      refine (check_lv ⟨hw0, hwd8⟩ (by omega) h hb1 hv).mono ?_
      rintro e w2 ⟨rfl, hb2⟩
      go_wp2
      go_ret
      exact ⟨rfl, past (past h.below hb1) hb2⟩

set_option maxHeartbeats 2000000 in
theorem inter_zero (wv : Int) (ao : Option Addr) (n cap : Nat) (f : Nat → Int) (w : World) (hwv : 0 ≤ wv ∧ wv ≤ 255) (hn : n ≤ 1024) (hwd : wv % 8 = 0) (ha : Bytes8 w ao n f) :
    Calls Yba.prog 4 #[.int .u8 wv, .slice ao n cap] w (TruePost w) := by
  have st := Lv.start w 0
  have st0 : Rz (w.alloc (.cells #[.int .i64 0, .slice none 0 0, .slice none 0 0, .slice none 0 0, .int .i64 0] 27)) w.heap.size (w.heap.size + 1) 0 := st.rs.rc
  have stb := st.below
  obtain ⟨W0, hW0⟩ : ∃ W0, W0 = w.alloc (.cells #[.int .i64 0, .slice none 0 0, .slice none 0 0, .slice none 0 0, .int .i64 0] 27) := ⟨_, rfl⟩
  have stb' : Below w.heap.size w W0 := by rw [hW0]; exact stb
  rw [← hW0] at st0
  obtain ⟨R, hR⟩ : ∃ R, w.heap.size = R := ⟨_, rfl⟩
  clear st stb
  go_enter Yba.func4, Yba.ntmps4
  go_wp2
  rw [← hW0]
  rw [hR] at st0
  have HR : Hid (w.heap.size = R) := hR
  clear hW0 hR hwd
  go_loopg [7, 8, 26] n (fun gg v7 v8 v26 wr => ∃ i k : Nat, i ≤ n ∧ k ≤ i ∧ gg = n - i ∧ v7 = .slice none 0 0 ∧ v8 = .int .i64 (k : Int) ∧ v26 = .int .i64 (i : Int) ∧ Rz wr R (R + 1) k ∧ Below w.heap.size w wr)
  case atStart => exact ⟨0, 0, by omega, by omega, rfl, rfl, rfl, rfl, st0, stb'⟩
  case round =>
    clear st0 stb'
    obtain ⟨i, k, hi, hki, rfl, rfl, rfl, rfl, h, hb⟩ := hrel
    by_cases hin : i < n
    · obtain ⟨b, off, hab, hac⟩ := id ha
      obtain rfl := hab (by omega)
      obtain ⟨hcell, hz0, hz1⟩ := hac i hin
      have kc := bc hb hcell
      obtain ⟨z, hz⟩ : ∃ z, f i = z := ⟨_, rfl⟩
      rw [hz] at kc hz0 hz1
      clear hab hac hcell hz
      rcases (by omega : z % 3 = 0 ∨ z % 3 = 1 ∨ z % 3 = 2) with e | e | e
      · have t0 : (z % 3 == 0) = true := by simp [e]
        clear e
        go_wp2_with fail
        refine (next_zero wr R (R + 1) k h).mono ?_
        rintro e w1 ⟨rfl, hb1⟩
        clear kc
        go_wp2_with fail
        refine (add_zero w1 R (R + 1) k (by omega) (h.below (hb1.mono h.size))).mono ?_
        rintro e w2 ⟨rfl, h2, hfr⟩
        have hb2 : Below w.heap.size w w2 := (past hb hb1).trans (hfr.below (by rw [HR.out]; exact Nat.le_refl _) (past hb hb1).size (fun b hb => by simp [Value.ownBlock] at hb))
        go_wp2
        go_roundg (n - (i + 1))
        case measure => omega
        case rel => exact ⟨i + 1, k + 1, by omega, by omega, rfl, rfl, by go_num, by go_num, h2, hb2⟩
      · have t0 : (z % 3 == 0) = false := by simp [e]
        have t1 : (z % 3 == 1) = true := by simp [e]
        clear e
        go_wp2_with fail
        refine (next_zero wr R (R + 1) k h).mono ?_
        rintro e w1 ⟨rfl, hb1⟩
        have h1 : Rz w1 R (R + 1) k := h.below (hb1.mono h.size)
        clear kc
        go_wp2
        go_roundg (n - (i + 1))
        case measure => omega
        case rel => exact ⟨i + 1, k, by omega, by omega, rfl, rfl, rfl, by go_num, h1, past hb hb1⟩
      · have t0 : (z % 3 == 0) = false := by simp [e]
        have t1 : (z % 3 == 1) = false := by simp [e]
        clear e
        have c3 := h.c3
        go_wp2_with fail
        refine (rows_zero wr R (R + 1) k (by omega) h).mono ?_
        rintro e w1 ⟨v, rfl, hb1, hv⟩
        have h1 : Rz w1 R (R + 1) k := h.below (hb1.mono h.size)
        have d3 := h1.c3
        have d4 := h1.c4
        clear c3 kc
        go_wp2_with fail
        refine (check_zero (by omega) hv _).mono ?_
        rintro e w2 ⟨rfl, hb2⟩
        have h2 : Rz w2 R (R + 1) k := h1.below (hb2.mono h1.size)
        clear hv d3 d4
        go_wp2
        go_roundg (n - (i + 1))
        case measure => omega
        case rel => exact ⟨i + 1, k, by omega, by omega, rfl, rfl, rfl, by go_num, h2, past (past hb hb1) hb2⟩
    · obtain rfl : i = n := by omega
      go_wp2_with fail
      refine (rows_zero wr R (R + 1) k (by omega) h).mono ?_
      rintro e w1 ⟨v, rfl, hb1, hv⟩
      go_wp2_with fail
      refine (check_zero (by omega) hv _).mono ?_
      rintro e w2 ⟨rfl, hb2⟩
      go_wp2
      go_ret
      exact ⟨rfl, past (past hb hb1) hb2⟩

theorem inter_any (wv : Int) (ao : Option Addr) (n cap : Nat) (f : Nat → Int) (w : World) (hwv : 0 ≤ wv ∧ wv ≤ 255) (hn63 : n ≤ 9223372036854775807) (ha : Bytes8 w ao n f) :
    Calls Yba.prog 4 #[.int .u8 wv, .slice ao n cap] w (TruePost w) := by
  by_cases hbig : 1024 < n
  · go_enter Yba.func4, Yba.ntmps4
    go_wp2
    go_ret
    exact ⟨rfl, Below.refl _ _⟩
  · obtain ⟨wd, hwd⟩ : ∃ wd : Nat, wv % 8 = (wd : Int) := ⟨(wv % 8).toNat, by omega⟩
    by_cases hw0 : 0 < wd
    · exact inter_pos wv ao n cap wd f w hwv (by omega) hwd hw0 (by omega) ha
    · exact inter_zero wv ao n cap f w hwv (by omega) (by omega) ha
end Go.Proofs.Ybulkbtgg
