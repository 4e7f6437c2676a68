import Derived.Test.YbulkbtdaPutFrac
import Derived.Laws.CopyRow
import Derived.Laws.IdiomCopy
namespace Go.Proofs.Ybulkbtda
open Go.RowKit Frac

def TruePost (w : World) (e : Ending) (w' : World) : Prop := e = .returned (.bool true) ∧ Below w.heap.size w w'

/-- The slice with address 'ao' and length n reads as the bytes f 0, f 1, .. -/
def Bytes (w : World) (ao : Option Addr) (n : Nat) (f : Nat → Int) : Prop :=
  ∃ b off, (0 < n → ao = some ⟨b, off, none⟩) ∧ ∀ j, j < n → w.cell? ⟨b, off + j, none⟩ = some (.int .u8 (f j))

theorem Bytes.later {w w' : World} {ao : Option Addr} {n : Nat} {f : Nat → Int} (h : Bytes w ao n f) (hb : Below w.heap.size w w') : Bytes w' ao n f := by
  obtain ⟨b, off, h1, h2⟩ := h
  refine ⟨b, off, h1, fun j hj => ?_⟩
  have hc := h2 j hj
  rw [hb.cell (p := ⟨b, off + j, none⟩) (World.block_lt_of_cell? _ _ hc)]
  exact hc

/-- 'make([]byte, len+10)'. -/
theorem make_bytes (w : World) (len : Nat) (hN : len ≤ 4096) :
    ∃ w', (Instr.makeSlice 22 (.int .i64 ((len : Int) + 10)) (.int .i64 ((len : Int) + 10))).run Yba.prog w = .ok (.slice (some ⟨w.heap.size, 0, none⟩) (len + 10) (len + 10)) w' ∧ w'.rowIs w.heap.size 5 (len + 10) (fun _ => .int .u8 0) ∧ Below w.heap.size w w' := by
  have e : (len : Int) + 10 = ((len + 10 : Nat) : Int) := by omega
  rw [e]
  exact ⟨_, run_make_row' (P := Yba.prog) 22 5 (.int .u8 0) 1 Yba.underlying22 Yba.info5 rfl .i64 .i64 (len + 10) (by omega) (by omega) w, World.rowIs_made w _ (len + 10) 5, (Below.refl _ _).alloc (Nat.le_refl _) _⟩

/-- 'copy(buf, prefix)' into a longer own row. -/
theorem copy_bytes {w : World} {g len L cap : Nat} {z : Nat → Int} {ao : Option Addr} {f : Nat → Int} (hrow : w.rowIs g 5 L (fun j => .int .u8 (z j))) (hs : Bytes w ao len f) (hL : len ≤ L) :
    ∃ w', (∀ ty, (Builtin.copy_ #[22, 22] ty #[.slice (some ⟨g, 0, none⟩) L L, .slice ao len cap]).run Yba.prog w = .ok (.int .i64 (len : Int)) w') ∧ w'.rowIs g 5 L (fun j => .int .u8 (if j < len then f j else z j)) ∧ Only g w w' := by
  have hsz : (Yba.prog.info? 5).map (·.size) = some 1 := by kernel_rfl
  obtain ⟨cur, hg, hn, hz⟩ := hrow
  obtain ⟨b, off, h1, h2⟩ := hs
  by_cases h0 : len = 0
  · subst h0
    exact ⟨w, fun ty => run_copy_none (P := Yba.prog) w 22 22 ty 5 _ _ L L 0 cap Yba.underlying22 hsz (by simp), ⟨cur, hg, hn, fun i hi => by simpa using hz i hi⟩, Only.refl _ _⟩
  · obtain rfl := h1 (by omega)
    have hl : ((List.range len).map fun j => Value.int .u8 (f j)).length = len := by simp
    have key : ∀ ty, (Builtin.copy_ #[22, 22] ty #[.slice (some ⟨g, 0, none⟩) L L, .slice (some ⟨b, off, none⟩) len cap]).run Yba.prog w = .ok (.int .i64 (len : Int)) (w.setRow g (cur.toList.take 0 ++ ((List.range len).map fun j => Value.int .u8 (f j)) ++ cur.toList.drop (0 + ((List.range len).map fun j => Value.int .u8 (f j)).length)).toArray) := by
      intro ty
      have := run_copy_row (P := Yba.prog) w 22 22 ty 5 g 0 L L ⟨b, off, none⟩ len cap cur 5 ((List.range len).map fun j => Value.int .u8 (f j)) Yba.underlying22 hsz hg (by simp [Nat.min_def]; omega) (fun j v hj => by
        have hjN : j < len := by have := (List.getElem?_eq_some_iff.1 hj).1; simpa using this
        rw [Addr.add_lit, h2 j hjN]
        simpa [hjN] using hj) (by simp [hn]; omega) (fun v hv => by
        obtain ⟨_, _, rfl⟩ := List.mem_map.1 hv
        rfl)
      rw [this, hl]
      rfl
    refine ⟨_, key, ?_, ?_⟩
    · refine ⟨_, setRow_heap w g cur _ 5 _ hg, by simp [hn]; omega, fun i hi => ?_⟩
      simp only [List.getElem?_toArray, List.take_zero, List.nil_append]
      by_cases e : i < len
      · rw [List.getElem?_append_left (by simpa using e), if_pos e]
        simp [e]
      · rw [List.getElem?_append_right (by simp; omega), if_neg e, List.getElem?_drop, hl]
        have := hz i hi
        rw [show 0 + len + (i - len) = i by omega]
        simpa using this
    · exact ⟨rfl, rfl, rfl, by simp, fun k hk => setRow_other w g k _ (by omega)⟩

/-- The nine digits' array after t digits, from the last on. -/
def dRow (V t s : Nat) : Int := if s < 9 - t then 0 else 48 + (dg V s : Int)

theorem dRow_step {V t : Nat} (_h : t < 9) {v : Int} (hv : v = 48 + ((V / 10 ^ t % 10 : Nat) : Int)) (s : Nat) (hs : s < 9) : (if s = 8 - t then v else dRow V t s) = dRow V (t + 1) s := by
  unfold dRow
  by_cases e : s = 8 - t
  · rw [if_pos e, if_neg (by omega), hv]
    unfold dg
    rw [show 8 - s = t by omega]
  · rw [if_neg e]
    by_cases e2 : s < 9 - t
    · rw [if_pos e2, if_pos (by omega)]
    · rw [if_neg e2, if_neg (by omega)]

theorem dRow_start (w : World) (V : Nat) : (w.alloc (.cells #[.int .u8 0, .int .u8 0, .int .u8 0, .int .u8 0, .int .u8 0, .int .u8 0, .int .u8 0, .int .u8 0, .int .u8 0] 23)).rowIs w.heap.size 23 9 (fun s => .int .u8 (dRow V 0 s)) := by
  refine (World.rowIs_alloc w _ 23 (fun _ => .int .u8 0) ?_).congr ?_
  · intro i hi
    have h9 : i < 9 := hi
    match i, h9 with
    | 0, _ => rfl
    | 1, _ => rfl
    | 2, _ => rfl
    | 3, _ => rfl
    | 4, _ => rfl
    | 5, _ => rfl
    | 6, _ => rfl
    | 7, _ => rfl
    | 8, _ => rfl
  · intro i hi
    have h9 : i < 9 := hi
    unfold dRow
    rw [if_pos (by omega)]

/-- The world once the digits' array and the buffer are there. -/
structure Sit (w wr : World) (V G L : Nat) (z : Nat → Int) : Prop where
  below : Below w.heap.size w wr
  drow : wr.rowIs w.heap.size 23 9 (fun s => .int .u8 (48 + (dg V s : Int)))
  brow : wr.rowIs G 5 L (fun s => .int .u8 (z s))
  gt : w.heap.size < G
theorem Sit.set {w wr : World} {V G L : Nat} {z : Nat → Int} (h : Sit w wr V G L z) (i : Nat) (v : Int) : Sit w (wr.setCell ⟨G, i, none⟩ (.int .u8 v)) V G L (fun j => if j = i then v else z j) :=
  ⟨h.below.setCell (by have := h.gt; show _ ≤ G; omega) _, h.drow.setOther (by have := h.gt; show _ ≠ G; omega) _, rowIs_setInt h.brow i v, h.gt⟩
theorem Sit.congr {w wr : World} {V G L : Nat} {z z' : Nat → Int} (h : Sit w wr V G L z) (e : ∀ i, i < L → z i = z' i) : Sit w wr V G L z' := ⟨h.below, h.drow, rowIs_congrInt h.brow e, h.gt⟩
theorem Sit.drewN {w wr : World} {V G L : Nat} {z : Nat → Int} (h : Sit w wr V G L z) (q : Nat) : Sit w (wr.drewN q) V G L z := ⟨below_drewN h.below q, h.drow, h.brow, h.gt⟩

/-- The buffer while the x's are laid. -/
def xRow (f : Nat → Int) (len t j : Nat) : Int := if j < len then f j else if j < len + t then 120 else 0

set_option maxHeartbeats 2000000 in
set_option maxRecDepth 100000 in
theorem fraclaw_any (ao : Option Addr) (len cap : Nat) (f : Nat → Int) (a : Int) (w : World) (ha : (Lit.int .i32 a).wf = true) (hl63 : len ≤ 9223372036854775807) (hb : Bytes w ao len f) :
    Calls Yba.prog 3 #[.slice ao len cap, .int .i32 a] w (TruePost w) := by
  by_cases h1 : (1024 : Int) < (len : Int)
  · go_enter Yba.func3, Yba.ntmps3
    go_wp2
    go_ret
    exact ⟨rfl, Below.refl _ _⟩
  have hab := bounds_i32 ha
  have hN1 : -1000000000 < a.tmod 1000000000 := by rw [tmod_eq_if]; split <;> omega
  have hN2 : a.tmod 1000000000 < 1000000000 := by rw [tmod_eq_if]; split <;> omega
  obtain ⟨N, hN⟩ : ∃ N, a.tmod 1000000000 = N := ⟨_, rfl⟩
  rw [hN] at hN1 hN2
  by_cases h2 : N = 0
  · subst h2
    go_enter Yba.func3, Yba.ntmps3
    go_wp2
    go_ret
    exact ⟨rfl, Below.refl _ _⟩
  have h2' : (N == 0) = false := by simpa using h2
  obtain ⟨V, hV, hV0⟩ : ∃ V : Nat, (N = V ∨ N = -V) ∧ 0 < V := ⟨N.natAbs, by omega, by omega⟩
  clear h2
  go_enter Yba.func3, Yba.ntmps3
  go_upto_if 26 with fail
  go_cut [6] (fun m wc => m = .int .i64 (V : Int) ∧ w = wc)
  case first =>
    have HV : Hid (N = V ∨ N = -V) := hV
    clear hV
    by_cases h3 : N < 0
    · go_wp2
      go_meet
      case rel => exact ⟨congrArg _ (by have := HV.out; omega), rfl⟩
    · go_wp2
      go_meet
      case rel => exact ⟨congrArg _ (by have := HV.out; omega), rfl⟩
  case rest =>
    obtain ⟨rfl, rfl⟩ := hcut
    have HV : Hid (N = V ∨ N = -V) := hV
    have hVb : V < 1000000000 := by omega
    clear hV
    have st := dRow_start w V
    go_wp2
    go_loopg [6, 8] 9 (fun gk vm vj wr => ∃ t y : Nat, t ≤ 9 ∧ gk = 9 - t ∧ Hid (y = V / 10 ^ t) ∧ vm = .int .i64 y ∧ vj = .int .i64 (8 - (t : Int)) ∧ wr.rowIs w.heap.size 23 9 (fun s => .int .u8 (dRow V t s)) ∧ Below w.heap.size w wr)
    case atStart => exact ⟨0, V, Nat.zero_le _, rfl, by show _ = _; simp, rfl, rfl, st, (Below.refl _ _).alloc (Nat.le_refl _) _⟩
    case round =>
      clear st
      obtain ⟨t, y, ht, rfl, HY, rfl, rfl, hrow, hB⟩ := hrel
      have hyx : y < 1000000000 := by have h := HY.out; have := Nat.div_le_self V (10 ^ t); omega
      by_cases hlt : t < 9
      · have k1 := hrow.cell (i := 8 - t) (by omega)
        have k2 := hrow.frozen (8 - t)
        have HR := fun v : Int => rowIs_setInt hrow (8 - t) v
        have hB' := fun v : Value => hB.setCell (p := ⟨w.heap.size, 8 - t, none⟩) (Nat.le_refl _) v
        clear hrow hB
        go_wp2
        go_roundg (9 - (t + 1))
        case measure => omega
        case rel => exact ⟨t + 1, y / 10, by omega, rfl, by show _ = _; rw [HY.out, div_step], by go_num, by go_num, rowIs_congrInt (HR _) (dRow_step (by omega) (by rw [← HY.out]; omega)), hB' _⟩
      · obtain rfl : t = 9 := by omega
        clear hyx HY hlt ht
        replace hrow : wr.rowIs w.heap.size 23 9 (fun s => .int .u8 (48 + (dg V s : Int))) := rowIs_congrInt hrow (fun i hi => by unfold dRow; rw [if_neg (by omega)])
        go_wp2
        go_loopg [9] 9 (fun gk vk wx => ∃ k : Nat, k ≤ 9 ∧ k = gk ∧ vk = .int .i64 k ∧ wr = wx ∧ ∀ s, k ≤ s → s < 9 → dg V s = 0)
        case atStart => exact ⟨9, by omega, rfl, rfl, rfl, fun s h1 h2 => by omega⟩
        case round =>
          obtain ⟨k, hk, rfl, rfl, rfl, hz⟩ := hrel
          have hk1 : 1 ≤ k := by
            rcases Nat.eq_zero_or_pos k with h | h
            · subst h
              exact absurd (fun s hs => hz s (by omega) hs) (dg_some hV0 (by omega))
            · exact h
          have k1 := hrow.cell (i := k - 1) (by omega)
          obtain ⟨c, hc⟩ : ∃ c : Int, 48 + (dg V (k - 1) : Int) = c := ⟨_, rfl⟩
          simp only [hc] at k1
          have hk0 : (0 : Int) < (k : Int) := by omega
          have HZ : Hid (∀ s, k ≤ s → s < 9 → dg V s = 0) := hz
          have HC : Hid (48 + (dg V (k - 1) : Int) = c) := hc
          clear hz hc
          by_cases h0 : c = 48
          · have hc0 : (c == 48) = true := by simpa using h0
            have HS : Hid (∀ s, k - 1 ≤ s → s < 9 → dg V s = 0) := fun s h1 h2 => by
              by_cases e : s = k - 1
              · subst e; have := HC.out; omega
              · exact HZ.out s (by omega) h2
            clear h0
            go_wp2
            go_roundg (k - 1)
            case measure => omega
            case rel => exact ⟨k - 1, by omega, rfl, by go_num, rfl, HS.out⟩
          · have hc0 : (c == 48) = false := by simpa using h0
            have HL : Hid (dg V (k - 1) ≠ 0) := fun h => h0 (by have := HC.out; omega)
            clear h0 HC
            obtain ⟨w1, hmk, hrow1, hb1⟩ := make_bytes wr len (by omega)
            have hBw1 : Below w.heap.size w w1 := hB.trans (hb1.mono hB.size)
            obtain ⟨w2, hcp, hrow2, hO2⟩ := copy_bytes (cap := cap) hrow1 (hb.later hBw1) (by omega)
            have hwr : w.heap.size < wr.heap.size := hrow.lt
            have hrd : w2.rowIs w.heap.size 23 9 (fun s => .int .u8 (48 + (dg V s : Int))) := hO2.row (by omega) (hrow.of_block (hb1.block _ hwr))
            have hB2 : Below w.heap.size w w2 := hBw1.trans (hO2.below (by omega))
            have hs2 := hb1.size
            clear hb1 hO2 hrow1 hBw1 hrow
            have hS2 : Sit w w2 V wr.heap.size (len + 10) (xRow f len 0) := ⟨hB2, hrd, rowIs_congrInt hrow2 (fun i hi => by unfold xRow; rw [Nat.add_zero]; split <;> rfl), hwr⟩
            clear hB2 hrd hrow2 hs2
            obtain ⟨G, hG⟩ : ∃ G, wr.heap.size = G := ⟨_, rfl⟩
            rw [hG] at hmk hcp hS2 hwr
            clear hG hB
            go_wp2
            clear k1 hc0 hmk hcp
            go_loopg [11] 10 (fun gk vj wr => ∃ t : Nat, t ≤ 10 ∧ gk = 10 - t ∧ vj = .int .i64 ((len : Int) + t) ∧ Sit w wr V G (len + 10) (xRow f len t))
            case atStart => exact ⟨0, by omega, rfl, by simp, hS2⟩
            case round =>
              clear hS2
              obtain ⟨t, ht, rfl, rfl, hS⟩ := hrel
              by_cases hlt : t < 10
              · have k1 := hS.brow.cell (i := len + t) (by omega)
                have k2 := hS.brow.frozen (len + t)
                have hS' := (hS.set (len + t) 120).congr (z' := xRow f len (t + 1)) (fun i hi => by
                  unfold xRow
                  by_cases e : i = len + t
                  · rw [if_pos e, if_neg (by omega), if_pos (by omega)]
                  · rw [if_neg e]
                    by_cases e2 : i < len
                    · rw [if_pos e2, if_pos e2]
                    · rw [if_neg e2, if_neg e2]
                      by_cases e3 : i < len + t
                      · rw [if_pos e3, if_pos (by omega)]
                      · rw [if_neg e3, if_neg (by omega)])
                clear hS
                go_wp2
                go_roundg (10 - (t + 1))
                case measure => omega
                case rel => exact ⟨t + 1, by omega, rfl, by go_num, hS'⟩
              · obtain rfl : t = 10 := by omega
                go_wp2_with fail
                refine (frac_any N V (len + 10) G (xRow f len 10) wr (by omega) (by omega) HV.out hV0 (by omega) hS.brow).mono ?_
                rintro e w3 ⟨x, d, hd1, hd9, hx, hx0, rfl, hrow3, hO3⟩
                obtain rfl : k = d := dg_unique hd9 hd1 hx hx0 hk hk1 HL.out HZ.out
                have hS3 : Sit w w3 V G (len + 10) (fracRow (xRow f len 10) (len + 10) k x) := ⟨hS.below.trans (hO3.below (by omega)), hO3.row (by omega) hS.drow, hrow3, hS.gt⟩
                have HX : Hid (x * 10 ^ (9 - k) = V) := hx
                clear hS hx hx0 hrow3 hO3 HL HZ HV
                obtain ⟨Q, hQ⟩ : ∃ Q : Nat, Q + k = len + 9 := ⟨len + 9 - k, by omega⟩
                have hQ1 : ((len + 10 : Nat) : Int) - 1 - (k : Int) = (Q : Int) := by omega
                rw [hQ1]
                have hQ2 : (Q : Int) ≤ (len : Int) + 9 - (k : Int) := by omega
                have hQ3 : (len : Int) + 9 - (k : Int) ≤ (Q : Int) := by omega
                have hz3 : ∀ s, fracRow (xRow f len 10) (len + 10) k x s = if s < Q then xRow f len 10 s else if s = Q then 46 else 48 + ((x / 10 ^ (len + 9 - s) % 10 : Nat) : Int) := fun s => by
                  unfold fracRow
                  rw [show len + 10 - 1 - k = Q by omega, show len + 10 - 1 - s = len + 9 - s by omega]
                have HZ3 : Hid (∀ s, fracRow (xRow f len 10) (len + 10) k x s = if s < Q then xRow f len 10 s else if s = Q then 46 else 48 + ((x / 10 ^ (len + 9 - s) % 10 : Nat) : Int)) := hz3
                clear hz3 hQ1 hQ
                go_wp2
                go_loopg [13] (len + 10) (fun gk vj wr => ∃ j : Nat, j ≤ Q ∧ gk = len + 10 - j ∧ vj = .int .i64 j ∧ w3 = wr)
                case atStart => exact ⟨0, by omega, rfl, rfl, rfl⟩
                case round =>
                  obtain ⟨j, hj, rfl, rfl, rfl⟩ := hrel
                  by_cases hlt : j < Q
                  · have k1 := hS3.brow.cell (i := j) (by omega)
                    by_cases hjl : j < len
                    · have e1 : fracRow (xRow f len 10) (len + 10) k x j = f j := by rw [HZ3.out j, if_pos hlt]; unfold xRow; rw [if_pos hjl]
                      simp only [e1] at k1
                      obtain ⟨b1, o1, ha1, hc1⟩ := hb
                      obtain rfl := ha1 (by omega)
                      have k2 : w3.cell? ⟨b1, o1 + j, none⟩ = some (.int .u8 (f j)) := by
                        rw [hS3.below.cell (p := ⟨b1, o1 + j, none⟩) (World.block_lt_of_cell? _ _ (hc1 j hjl))]; exact hc1 j hjl
                      have hne : (f j != f j) = false := by simp
                      clear hc1 ha1 e1
                      go_wp2
                      go_roundg (len + 10 - (j + 1))
                      case measure => omega
                      case rel => exact ⟨j + 1, by omega, rfl, by go_num, rfl⟩
                    · have e1 : fracRow (xRow f len 10) (len + 10) k x j = 120 := by rw [HZ3.out j, if_pos hlt]; unfold xRow; rw [if_neg hjl, if_pos (by omega)]
                      simp only [e1] at k1
                      clear e1
                      go_wp2
                      go_roundg (len + 10 - (j + 1))
                      case measure => omega
                      case rel => exact ⟨j + 1, by omega, rfl, by go_num, rfl⟩
                  · have k1 := hS3.brow.cell (i := Q) (by omega)
                    have e1 : fracRow (xRow f len 10) (len + 10) k x Q = 46 := by rw [HZ3.out Q, if_neg (by omega), if_pos rfl]
                    simp only [e1] at k1
                    clear e1
                    go_wp2
                    clear k1
                    go_loopg [15] k (fun gk vj wr => ∃ j : Nat, j ≤ k ∧ gk = k - j ∧ vj = .int .i64 j ∧ Sit w wr V G (len + 10) (fracRow (xRow f len 10) (len + 10) k x))
                    case atStart => exact ⟨0, by omega, rfl, rfl, hS3⟩
                    case round =>
                      clear hS3
                      obtain ⟨i, hi, rfl, rfl, hS⟩ := hrel
                      by_cases hil : i < k
                      · have k1 := hS.brow.cell (i := Q + 1 + i) (by omega)
                        have k2 := hS.drow.cell (i := i) (by omega)
                        have e1 : fracRow (xRow f len 10) (len + 10) k x (Q + 1 + i) = 48 + (dg V i : Int) := by
                          rw [HZ3.out, if_neg (by omega), if_neg (by omega), dg_hi hd9 HX.out hil, show len + 9 - (Q + 1 + i) = k - 1 - i by omega]
                        simp only [e1] at k1
                        have hne : ((48 + (dg V i : Int)) != (48 + (dg V i : Int))) = false := by simp
                        have p1 : (Q : Int) + 1 + (i : Int) < (len : Int) + 10 := by omega
                        have p2 : (i : Int) < 9 := by omega
                        have hS' := fun q => hS.drewN q
                        clear e1 hS
                        go_wp2
                        go_quiet (fail)
                        go_wp2
                        go_roundg (k - (i + 1))
                        case measure => omega
                        case rel => exact ⟨i + 1, by omega, rfl, by go_num, hS' _⟩
                      · go_wp2
                        go_ret
                        exact ⟨rfl, hS.below⟩
end Go.Proofs.Ybulkbtda
