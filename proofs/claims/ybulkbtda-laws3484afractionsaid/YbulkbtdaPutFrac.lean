import Derived.Test.YbulkbtdaBase
import Derived.Test.YbulkbtdaFracPlain
namespace Go.Proofs.Ybulkbtda
open Go.RowKit Frac

theorem mag_pos (n : Int) (w : World) (h0 : 0 ≤ n) (h1 : n ≤ 2147483647) : Calls Yba.prog 12 #[.int .i64 n] w fun e w' => e = .returned (.int .u64 n) ∧ w = w' := by
  go_enter Yba.func12, Yba.ntmps12
  go_wp2
  go_ret
  exact ⟨rfl, rfl⟩
theorem mag_neg (n : Int) (w : World) (h0 : n < 0) (h1 : -2147483648 ≤ n) : Calls Yba.prog 12 #[.int .i64 n] w fun e w' => e = .returned (.int .u64 (-n)) ∧ w = w' := by
  go_enter Yba.func12, Yba.ntmps12
  go_wp2
  go_ret
  exact ⟨ret_int (by first | rfl | omega | (simp [IntKind.wrap_u64]; omega)), rfl⟩

/-- Cut so far: 'd' digits are left, x their number; not the last q of them are nought. -/
def Cut (V q x d : Nat) : Prop := d ≤ 9 ∧ x * 10 ^ (9 - d) = V ∧ x % 10 ^ q ≠ 0

theorem Cut.lt {V q x d : Nat} (h : Cut V q x d) (hV : V < 1000000000) : x < 1000000000 := by
  have h1 := Nat.le_mul_of_pos_right x (pow_pos10 (9 - d))
  have h2 := h.2.1
  omega
theorem Cut.yes {V q x d : Nat} (h : Cut V (q + q) x d) (hV0 : 0 < V) (hV : V < 1000000000) (h0 : x % 10 ^ q = 0) : q < d ∧ Cut V q (x / 10 ^ q) (d - q) := by
  obtain ⟨h1, h2, h3⟩ := h
  have c := cut hV0 (by omega) h1 h2 h0
  exact ⟨c.1, by omega, c.2, cut_more h3 h0⟩
theorem Cut.no {V q p x d : Nat} (h : Cut V p x d) (h0 : x % 10 ^ q ≠ 0) : Cut V q x d := ⟨h.1, h.2.1, h0⟩

/-- What putFraction leaves in its row. -/
def fracRow (f : Nat → Int) (L d x s : Nat) : Int := if s < L - 1 - d then f s else if s = L - 1 - d then 46 else 48 + ((x / 10 ^ (L - 1 - s) % 10 : Nat) : Int)

/-- .. after t digits. -/
def digRow (f : Nat → Int) (L x t s : Nat) : Int := if s < L - t then f s else 48 + ((x / 10 ^ (L - 1 - s) % 10 : Nat) : Int)

theorem digRow_step {f : Nat → Int} {L x t : Nat} (h : t < L) {v : Int} (hv : v = 48 + ((x / 10 ^ t % 10 : Nat) : Int)) (s : Nat) (hs : s < L) : (if s = L - t - 1 then v else digRow f L x t s) = digRow f L x (t + 1) s := by
  unfold digRow
  by_cases e : s = L - t - 1
  · rw [if_pos e, if_neg (by omega), hv, show L - 1 - s = t by omega]
  · rw [if_neg e]
    by_cases e2 : s < L - t
    · rw [if_pos e2, if_pos (by omega)]
    · rw [if_neg e2, if_neg (by omega)]

theorem digRow_end {f : Nat → Int} {L x d : Nat} (h : d < L) (s : Nat) (_hs : s < L) : (if s = L - d - 1 then 46 else digRow f L x d s) = fracRow f L d x s := by
  unfold digRow fracRow
  by_cases e : s = L - d - 1
  · rw [if_pos e, if_neg (by omega), if_pos (by omega)]
  · rw [if_neg e]
    by_cases e2 : s < L - d
    · rw [if_pos e2, if_pos (by omega)]
    · rw [if_neg e2, if_neg (by omega), if_neg (by omega)]

def FracPost (V L g : Nat) (f : Nat → Int) (w : World) (e : Ending) (w' : World) : Prop :=
  ∃ x d : Nat, 1 ≤ d ∧ d ≤ 9 ∧ x * 10 ^ (9 - d) = V ∧ x % 10 ≠ 0 ∧ e = .returned (.int .i64 ((L : Int) - 1 - d)) ∧ w'.rowIs g 5 L (fun s => .int .u8 (fracRow f L d x s)) ∧ Only g w w'

set_option maxHeartbeats 1000000 in
theorem frac_any (n : Int) (V L g : Nat) (f : Nat → Int) (w : World) (hL : 10 ≤ L) (hL2 : L ≤ 5000) (hn : n = V ∨ n = -V) (hV0 : 0 < V) (hV : V < 10 ^ 9) (hrow : w.rowIs g 5 L (fun s => .int .u8 (f s))) :
    Calls Yba.prog 6 #[.slice (some ⟨g, 0, none⟩) L L, .int .i32 n] w (FracPost V L g f w) := by
  have hV' : V < 1000000000 := hV
  have hmag : ∀ w, Calls Yba.prog 12 #[.int .i64 n] w fun e w' => e = .returned (.int .u64 (V : Int)) ∧ w = w' := by
    intro w
    rcases hn with rfl | rfl
    · exact mag_pos _ _ (by omega) (by omega)
    · exact (mag_neg _ _ (by omega) (by omega)).mono fun e w' ⟨h, h'⟩ => ⟨by rw [h, Int.neg_neg], h'⟩
  have hnb : -2147483648 ≤ n ∧ n ≤ 2147483647 := by omega
  clear hn
  have I0 : Cut V (8 + 8) V 9 := ⟨by omega, by simp, by rw [Nat.mod_eq_of_lt (by omega)]; omega⟩
  go_enter Yba.func6, Yba.ntmps6
  go_upto_if 13 with (go_at_call 12; refine (hmag _).mono ?_; rintro e w' ⟨rfl, rfl⟩)
  clear hmag
  go_cut [5, 6] (fun v dd wc => ∃ x d : Nat, v = .int .u64 x ∧ dd = .int .i64 d ∧ Cut V 8 x d ∧ w = wc)
  case first =>
    by_cases h : V % 100000000 = 0
    · have hb : ((V : Int) % 100000000 == 0) = true := by simp; omega
      have C := I0.yes hV0 hV' h
      go_wp2
      go_meet
      case rel => exact ⟨V / 10 ^ 8, 1, by go_num, by go_num, C.2, rfl⟩
    · have hb : ((V : Int) % 100000000 == 0) = false := by simp; omega
      have C : Cut V 8 V 9 := I0.no h
      go_wp2
      go_meet
      case rel => exact ⟨V, 9, by go_num, by go_num, C, rfl⟩
  case rest =>
    obtain ⟨x, d, rfl, rfl, I1, rfl⟩ := hcut
    have hx := I1.lt hV'
    have hd := I1.1
    go_upto_if 20 with fail
    go_cut [5, 6] (fun v dd wc => ∃ x d : Nat, v = .int .u64 x ∧ dd = .int .i64 d ∧ Cut V 4 x d ∧ w = wc)
    case first =>
      by_cases h : x % 10000 = 0
      · have hb : ((x : Int) % 10000 == 0) = true := by simp; omega
        have C := Cut.yes (q := 4) I1 hV0 hV' h
        have hdq := C.1
        go_wp2
        go_meet
        case rel => exact ⟨x / 10 ^ 4, d - 4, by go_num, by go_num, C.2, rfl⟩
      · have hb : ((x : Int) % 10000 == 0) = false := by simp; omega
        have C : Cut V 4 x d := I1.no h
        go_wp2
        go_meet
        case rel => exact ⟨x, d, by go_num, by go_num, C, rfl⟩
    case rest =>
      clear I1 hx hd x d
      obtain ⟨x, d, rfl, rfl, I1, rfl⟩ := hcut
      have hx := I1.lt hV'
      have hd := I1.1
      go_upto_if 27 with fail
      go_cut [5, 6] (fun v dd wc => ∃ x d : Nat, v = .int .u64 x ∧ dd = .int .i64 d ∧ Cut V 2 x d ∧ w = wc)
      case first =>
        by_cases h : x % 100 = 0
        · have hb : ((x : Int) % 100 == 0) = true := by simp; omega
          have C := Cut.yes (q := 2) I1 hV0 hV' h
          have hdq := C.1
          go_wp2
          go_meet
          case rel => exact ⟨x / 10 ^ 2, d - 2, by go_num, by go_num, C.2, rfl⟩
        · have hb : ((x : Int) % 100 == 0) = false := by simp; omega
          have C : Cut V 2 x d := I1.no h
          go_wp2
          go_meet
          case rel => exact ⟨x, d, by go_num, by go_num, C, rfl⟩
      case rest =>
        clear I1 hx hd x d
        obtain ⟨x, d, rfl, rfl, I1, rfl⟩ := hcut
        have hx := I1.lt hV'
        have hd := I1.1
        go_upto_if 34 with fail
        go_cut [5, 6] (fun v dd wc => ∃ x d : Nat, v = .int .u64 x ∧ dd = .int .i64 d ∧ Cut V 1 x d ∧ w = wc)
        case first =>
          by_cases h : x % 10 = 0
          · have hb : ((x : Int) % 10 == 0) = true := by simp; omega
            have C := Cut.yes (q := 1) I1 hV0 hV' h
            have hdq := C.1
            go_wp2
            go_meet
            case rel => exact ⟨x / 10 ^ 1, d - 1, by go_num, by go_num, C.2, rfl⟩
          · have hb : ((x : Int) % 10 == 0) = false := by simp; omega
            have C : Cut V 1 x d := I1.no h
            go_wp2
            go_meet
            case rel => exact ⟨x, d, by go_num, by go_num, C, rfl⟩
        case rest =>
          clear I1 hx hd x d
          obtain ⟨x, d, rfl, rfl, I1, rfl⟩ := hcut
          have hx := I1.lt hV'
          have hd := I1.1
          have hd1 : 1 ≤ d := by
            rcases Nat.eq_zero_or_pos d with h | h
            · exfalso
              obtain ⟨_, q2, q3⟩ := I1
              subst h
              have : x = 0 := by omega
              subst this
              exact q3 (Nat.zero_mod _)
            · exact h
          have st : w.rowIs g 5 L (fun s => .int .u8 (digRow f L x 0 s)) := rowIs_congrInt hrow (fun i hi => by unfold digRow; rw [if_pos (by omega)])
          clear hrow
          go_wp2
          go_loopg [5, 7, 42] d (fun gk vx vi vt wr => ∃ t y : Nat, t ≤ d ∧ gk = d - t ∧ Hid (y = x / 10 ^ t) ∧ vx = .int .u64 y ∧ vi = .int .i64 ((L : Int) - t) ∧ vt = .int .i64 t ∧ wr.rowIs g 5 L (fun s => .int .u8 (digRow f L x t s)) ∧ Only g w wr)
          case atStart => exact ⟨0, x, Nat.zero_le _, rfl, by show _ = _; simp, rfl, by simp, rfl, st, Only.refl _ _⟩
          case round =>
            clear st
            obtain ⟨t, y, ht, rfl, HY, rfl, rfl, rfl, hrow, hO⟩ := hrel
            have hyx : y < 1000000000 := by have h := HY.out; have := Nat.div_le_self x (10 ^ t); omega
            by_cases hlt : t < d
            · have k1 := hrow.cell (i := L - t - 1) (by omega)
              have k2 := hrow.frozen (L - t - 1)
              have HR := fun v : Int => rowIs_setInt hrow (L - t - 1) v
              have hO' := fun v : Value => hO.setCell (L - t - 1) v
              clear hrow hO
              go_wp2
              go_roundg (d - (t + 1))
              case measure => omega
              case rel => exact ⟨t + 1, y / 10, by omega, rfl, by show _ = _; rw [HY.out, div_step], by go_num, by go_num, by go_num, rowIs_congrInt (HR _) (digRow_step (by omega) (by rw [← HY.out]; omega)), hO' _⟩
            · obtain rfl : t = d := by omega
              have k1 := hrow.cell (i := L - t - 1) (by omega)
              have k2 := hrow.frozen (L - t - 1)
              have HR := fun v : Int => rowIs_setInt hrow (L - t - 1) v
              have hO' := fun v : Value => hO.setCell (L - t - 1) v
              clear hrow hO
              go_wp2
              go_ret
              obtain ⟨q1, q2, q3⟩ := I1
              exact ⟨x, t, hd1, q1, q2, by simpa using q3, ret_int (by omega), rowIs_congrInt (HR _) (digRow_end (by omega)), hO' _⟩
end Go.Proofs.Ybulkbtda
