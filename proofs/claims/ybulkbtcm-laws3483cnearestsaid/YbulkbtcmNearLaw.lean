import Derived.Test.YbulkbtcmNear
import Derived.Test.YbulkbtcmLev
namespace Go.Proofs.Ybulkbtcm
open Go.RowKit Plain

def NTruePost (w : World) (e : Ending) (w' : World) : Prop := e = .returned (.bool true) ∧ Below w.heap.size w w'

/-- 'cs := make([]string, N)'. -/
theorem make_strs (w : World) (N : Nat) (hN : N ≤ 256) :
    ∃ w', (Instr.makeSlice 28 (.int .i64 (N : Int)) (.int .i64 (N : Int))).run Yba.prog w = .ok (.slice (some ⟨w.heap.size, 0, none⟩) N N) w' ∧ w'.rowIs w.heap.size 9 N (fun _ => .string ByteArray.empty) ∧ Below w.heap.size w w' :=
  ⟨_, run_make_row' (P := Yba.prog) 28 9 (.string ByteArray.empty) 16 Yba.underlying28 Yba.info9 rfl .i64 .i64 N (by omega) (by omega) w, World.rowIs_made w _ N 9, (Below.refl _ _).alloc (Nat.le_refl _) _⟩

/-- 'copy(cs, Cands)' into an own row as long. -/
theorem copy_strs {w : World} {g N cap : Nat} {z : Nat → Value} {ao : Option Addr} {c : Nat → ByteArray} (hrow : w.rowIs g 9 N z) (hs : Strs w ao N c) (B : Nat) (hB : B ≤ g) :
    ∃ w', (∀ ty, (Builtin.copy_ #[28, 28] ty #[.slice (some ⟨g, 0, none⟩) N N, .slice ao N cap]).run Yba.prog w = .ok (.int .i64 (N : Int)) w') ∧ w'.rowIs g 9 N (fun j => .string (c j)) ∧ Below B w w' := by
  have hsz : (Yba.prog.info? 9).map (·.size) = some 1 := by kernel_rfl
  obtain ⟨cur, hg, hn, hz⟩ := hrow
  obtain ⟨b, off, h1, h2⟩ := hs
  by_cases h0 : N = 0
  · subst h0
    exact ⟨w, fun ty => run_copy_none (P := Yba.prog) w 28 28 ty 9 _ _ 0 0 0 cap Yba.underlying28 hsz (by simp), ⟨cur, hg, hn, fun i hi => by omega⟩, Below.refl _ _⟩
  · obtain rfl := h1 (by omega)
    have hl : ((List.range N).map fun j => Value.string (c j)).length = N := by simp
    have key : ∀ ty, (Builtin.copy_ #[28, 28] ty #[.slice (some ⟨g, 0, none⟩) N N, .slice (some ⟨b, off, none⟩) N cap]).run Yba.prog w = .ok (.int .i64 (N : Int)) (w.setRow g (cur.toList.take 0 ++ ((List.range N).map fun j => Value.string (c j)) ++ cur.toList.drop (0 + ((List.range N).map fun j => Value.string (c j)).length)).toArray) := by
      intro ty
      have := run_copy_row (P := Yba.prog) w 28 28 ty 9 g 0 N N ⟨b, off, none⟩ N cap cur 9 ((List.range N).map fun j => Value.string (c j)) Yba.underlying28 hsz hg (by simp) (fun j v hj => by
        have hjN : j < N := by have := (List.getElem?_eq_some_iff.1 hj).1; simpa using this
        rw [Addr.add_lit, h2 j hjN]
        simpa [hjN] using hj) (by simp [hn]) (fun v hv => by
        obtain ⟨_, _, rfl⟩ := List.mem_map.1 hv
        rfl)
      rw [this, hl]
      rfl
    refine ⟨_, key, ?_, ?_⟩
    · refine ⟨_, setRow_heap w g cur _ 9 _ hg, by simp [hn], fun i hi => ?_⟩
      simp only [List.getElem?_toArray, List.take_zero, List.nil_append]
      rw [List.getElem?_append_left (by simpa using hi)]
      simp [hi]
    · refine ⟨rfl, rfl, rfl, by simp, fun k hk => setRow_other w g k _ (by omega)⟩

theorem strs_later {w w' : World} {ao : Option Addr} {N : Nat} {c : Nat → ByteArray} (h : Strs w ao N c) (hb : Below w.heap.size w w') : Strs w' ao N c := by
  obtain ⟨b, off, h1, h2⟩ := h
  refine ⟨b, off, h1, fun j hj => ?_⟩
  have hc := h2 j hj
  rw [hb.cell (p := ⟨b, off + j, none⟩) (World.block_lt_of_cell? _ _ hc)]
  exact hc

set_option maxHeartbeats 1000000 in
theorem nearlaw_any (name : ByteArray) (ao : Option Addr) (N cap : Nat) (c : Nat → ByteArray) (w : World) (hN63 : N ≤ 9223372036854775807) (hname63 : name.size ≤ 9223372036854775807) (hc63 : ∀ j, j < N → (c j).size ≤ 9223372036854775807) (hs : Strs w ao N c) :
    Calls Yba.prog 4 #[.string name, .slice ao N cap] w (NTruePost w) := by
  by_cases h1 : (256 : Int) < (name.size : Int)
  · go_enter Yba.func4, Yba.ntmps4
    go_wp2
    go_ret
    exact ⟨rfl, Below.refl _ _⟩
  by_cases h2 : (256 : Int) < (N : Int)
  · go_enter Yba.func4, Yba.ntmps4
    go_wp2
    go_ret
    exact ⟨rfl, Below.refl _ _⟩
  have hname : name.size ≤ 256 := by omega
  have hN : N ≤ 256 := by omega
  go_enter Yba.func4, Yba.ntmps4
  go_wp2
  go_loopg [5] N (fun g i wr => ∃ k : Nat, k ≤ N ∧ g = N - k ∧ i = .int .i64 k ∧ w = wr ∧ ∀ j, j < k → (c j).size ≤ 256)
  case atStart => exact ⟨0, Nat.zero_le _, rfl, rfl, rfl, fun j hj => by omega⟩
  case round =>
    obtain ⟨k, hk, rfl, rfl, rfl, hle⟩ := hrel
    by_cases hlt : k < N
    · have hs' := hs
      obtain ⟨b1, o1, ha1, hc1⟩ := hs'
      obtain rfl := ha1 (by omega)
      have k1 := hc1 k hlt
      have hz := hc63 k hlt
      clear hc1 ha1
      by_cases hbig : (256 : Int) < ((c k).size : Int)
      · go_wp2
        go_ret
        exact ⟨rfl, Below.refl _ _⟩
      · have HL : Hid (∀ j, j < k + 1 → (c j).size ≤ 256) := fun j hj => by
          by_cases e : j = k
          · subst e; omega
          · exact hle j (by omega)
        clear hle
        go_wp2
        go_roundg (N - (k + 1))
        case measure => omega
        case rel => exact ⟨k + 1, by omega, rfl, by go_num, rfl, HL.out⟩
    · obtain rfl : k = N := by omega
      obtain ⟨w1, hmk, hrow1, hb1⟩ := make_strs w k hN
      obtain ⟨w2, hcp, hrow2, hb2⟩ := copy_strs (cap := cap) hrow1 (strs_later hs hb1) w.heap.size (Nat.le_refl _)
      have hs2 : Strs w2 (some ⟨w.heap.size, 0, none⟩) k c := ⟨w.heap.size, 0, fun _ => rfl, fun j hj => by rw [Nat.zero_add]; exact hrow2.cell hj⟩
      have HL : Hid (∀ j, j < k → (c j).size ≤ 256) := hle
      have hbw2 : Below w.heap.size w w2 := hb1.trans hb2
      clear hle
      go_wp2_with fail
      refine (near_any name (some ⟨w.heap.size, 0, none⟩) k k c w2 hN hname HL.out hs2).mono ?_
      rintro e w3 ⟨rfl, hb3⟩
      obtain ⟨c4, w4, hcv, hr4, hb4⟩ := conv_runes w3 name hname
      have hs4 : ∀ j, j < k → w4.cell? ⟨w.heap.size, j, none⟩ = some (.string (c j)) := fun j hj => by
        have h := hrow2.cell hj
        rw [(past hb3 hb4).cell (p := ⟨w.heap.size, j, none⟩) (World.block_lt_of_cell? _ _ h)]; exact h
      have hbw4 : Below w.heap.size w w4 := hbw2.trans ((past hb3 hb4).mono hbw2.size)
      obtain ⟨B, hB⟩ : ∃ B, (nst (dst name c) c k).1 = B := ⟨_, rfl⟩
      obtain ⟨BD, hBD⟩ : ∃ BD, (nst (dst name c) c k).2 = BD := ⟨_, rfl⟩
      rw [hB, hBD]
      have HK : Hid (nst (dst name c) c k = (B, BD)) := by rw [← hB, ← hBD]; exact rfl
      clear hB hBD hmk hcp hb1 hb2 hb3 hb4 hrow1 hrow2 hs2 hbw2 hs
      go_wp2
      clear hcv
      go_loopg [10, 11, 12, 13] k (fun g vb vd vf vi wx => ∃ (i : Nat) (b : ByteArray) (bd wd : Int) (fd : Bool), i ≤ k ∧ g = k - i ∧ vb = .string b ∧ vd = .int .i64 wd ∧ vf = .bool fd ∧ vi = .int .i64 i ∧ nst (dst name c) c i = (b, bd) ∧ fd = decide (bd ≤ 2) ∧ (bd ≤ 2 → wd = bd) ∧ Below w.heap.size w wx ∧ (∀ j, j < k → wx.cell? ⟨w.heap.size, j, none⟩ = some (.string (c j))) ∧ Runes wx (some ⟨w3.heap.size, 0, none⟩) (rn name) (rf name))
      case atStart => exact ⟨0, _, _, _, _, Nat.zero_le _, rfl, rfl, rfl, rfl, rfl, rfl, rfl, fun h => by omega, hbw4, hs4, hr4⟩
      case round =>
        clear hs4 hbw4 hr4
        obtain ⟨i, b, bd, wd, fd, hi, rfl, rfl, rfl, rfl, rfl, hnst, hfd, hwd, hBx, hSx, hRx⟩ := hrel
        have bb := nst_bd (c := c) (dst_nonneg name c) i
        have hemp := nst_none (c := c) (dst_nonneg name c) i
        rw [hnst] at bb hemp
        dsimp only at bb hemp
        by_cases hlt : i < k
        · have k1 := hSx i hlt
          have hci : (c i).size ≤ 256 := HL.out i hlt
          obtain ⟨c5, w5, hcv5, hr5, hb5⟩ := conv_runes wr (c i) hci
          have hn1 := rn_le name
          have hn2 := rn_le (c i)
          have k5 : w5.cell? ⟨w.heap.size, i, none⟩ = some (.string (c i)) := by
            rw [hb5.cell (p := ⟨w.heap.size, i, none⟩) (World.block_lt_of_cell? _ _ k1)]; exact k1
          have HN : Hid (nst (dst name c) c i = (b, bd) ∧ fd = decide (bd ≤ 2) ∧ (bd ≤ 2 → wd = bd) ∧ (bd = 3 → b = ByteArray.empty)) := ⟨hnst, hfd, hwd, hemp⟩
          have HC : Hid (∀ j, j < k → wr.cell? ⟨w.heap.size, j, none⟩ = some (.string (c j))) := hSx
          clear hnst hfd hwd hemp hSx
          go_wp2_with fail
          refine (lev_any _ _ (rn name) (rn (c i)) _ _ (rf name) (rf (c i)) w5 (by omega) (by omega) (hRx.later hb5) hr5).mono ?_
          rintro e w6 ⟨rfl, hb6⟩
          have hB' : Below w.heap.size w w6 := hBx.trans ((past hb5 hb6).mono hBx.size)
          have hR' := (hRx.later hb5).later hb6
          have HC' : Hid (∀ j, j < k → w6.cell? ⟨w.heap.size, j, none⟩ = some (.string (c j))) := fun j hj => by
            have h := HC.out j hj
            rw [(past hb5 hb6).cell (p := ⟨w.heap.size, j, none⟩) (World.block_lt_of_cell? _ _ h)]; exact h
          have k6 := HC'.out i hlt
          have hd0 := dst_nonneg name c i
          obtain ⟨d, hd⟩ : ∃ d : Int, dst name c i = d := ⟨_, rfl⟩
          have hd' : ((D (rf name) (rf (c i)) (rn name) (rn (c i)) : Nat) : Int) = d := hd
          rw [hd']
          rw [hd] at hd0
          have HD : Hid (dst name c i = d) := hd
          clear hd hd' hcv5 hr5 hb5 hb6 hRx hBx k1 k5 HC hn1 hn2
          have keep : (¬ d < bd) → (d = bd → Op.bytesLess (c i).toList b.toList = false) → nst (dst name c) c (i + 1) = (b, bd) := fun h1 h2 => nst_keep HN.out.1 (by rw [HD.out]; exact h1) (by rw [HD.out]; exact h2)
          have take : (d < bd ∨ (d = bd ∧ Op.bytesLess (c i).toList b.toList = true)) → nst (dst name c) c (i + 1) = (c i, d) := fun h => by have := nst_take HN.out.1 (by rw [HD.out]; exact h); rw [HD.out] at this; exact this
          by_cases t1 : (2 : Int) < d
          · have HS : Hid (nst (dst name c) c (i + 1) = (b, bd)) := keep (by omega) (fun h => by rw [HN.out.2.2.2 (by omega)]; simp [ByteArray.toList_empty, less_empty])
            clear keep take
            go_wp2
            go_roundg (k - (i + 1))
            case measure => omega
            case rel => exact ⟨i + 1, b, bd, wd, fd, by omega, rfl, rfl, rfl, rfl, by go_num, HS.out, HN.out.2.1, HN.out.2.2.1, hB', HC'.out, hR'⟩
          · cases fd with
            | false =>
              have hb3 : ¬ bd ≤ 2 := by have := HN.out.2.1; simpa using this
              have HS : Hid (nst (dst name c) c (i + 1) = (c i, d)) := take (.inl (by omega))
              clear keep take
              go_wp2
              go_roundg (k - (i + 1))
              case measure => omega
              case rel => exact ⟨i + 1, c i, d, d, true, by omega, rfl, rfl, rfl, rfl, by go_num, HS.out, by simp; omega, fun _ => rfl, hB', HC'.out, hR'⟩
            | true =>
              have hb3 : bd ≤ 2 := by have := HN.out.2.1; simpa using this
              obtain rfl := HN.out.2.2.1 hb3
              by_cases t2 : d < wd
              · have HS : Hid (nst (dst name c) c (i + 1) = (c i, d)) := take (.inl t2)
                clear keep take
                go_wp2
                go_roundg (k - (i + 1))
                case measure => omega
                case rel => exact ⟨i + 1, c i, d, d, true, by omega, rfl, rfl, rfl, rfl, by go_num, HS.out, by simp; omega, fun _ => rfl, hB', HC'.out, hR'⟩
              · by_cases t3 : d = wd
                · subst t3
                  have t5 : (d == d) = true := by simp
                  cases t4 : Op.bytesLess (c i).toList b.toList with
                  | true =>
                    have HS : Hid (nst (dst name c) c (i + 1) = (c i, d)) := take (.inr ⟨rfl, t4⟩)
                    clear keep take
                    go_wp2
                    go_roundg (k - (i + 1))
                    case measure => omega
                    case rel => exact ⟨i + 1, c i, d, d, true, by omega, rfl, rfl, rfl, rfl, by go_num, HS.out, by simp; omega, fun _ => rfl, hB', HC'.out, hR'⟩
                  | false =>
                    have HS : Hid (nst (dst name c) c (i + 1) = (b, d)) := keep t2 (fun _ => t4)
                    clear keep take
                    go_wp2
                    go_roundg (k - (i + 1))
                    case measure => omega
                    case rel => exact ⟨i + 1, b, d, d, true, by omega, rfl, rfl, rfl, rfl, by go_num, HS.out, by simp; omega, fun _ => rfl, hB', HC'.out, hR'⟩
                · have HS : Hid (nst (dst name c) c (i + 1) = (b, wd)) := keep t2 (fun h => absurd h t3)
                  have t5 : (d == wd) = false := by simpa using t3
                  clear keep take t3
                  go_wp2
                  go_roundg (k - (i + 1))
                  case measure => omega
                  case rel => exact ⟨i + 1, b, wd, wd, true, by omega, rfl, rfl, rfl, rfl, by go_num, HS.out, by simp; omega, fun _ => rfl, hB', HC'.out, hR'⟩
        · obtain rfl : i = k := by omega
          have e1 : (b, bd) = (B, BD) := by rw [← hnst, HK.out]
          obtain ⟨rfl, rfl⟩ := Prod.mk.inj e1
          clear hwd hemp hnst HK e1
          subst hfd
          go_wp2
          go_ret
          exact ⟨by simp, hBx⟩
end Go.Proofs.Ybulkbtcm
