import Derived.Test.YbulkbtcmPrep
import Derived.Test.YbulkbtcmSame
import Derived.Test.YbulkbtcmEdit
import Derived.Test.YbulkbtcmLev
namespace Go.Proofs.Ybulkbtcm
open Go.RowKit Plain

def TruePost (w : World) (e : Ending) (w' : World) : Prop := e = .returned (.bool true) ∧ Below w.heap.size w w'

set_option maxHeartbeats 1000000 in
theorem model_any (aa ab : Option Addr) (n m ca cb : Nat) (L : Int) (sm : Bool) (fa fb : Nat → Int) (w : World) (hL : (Lit.int .i64 L).wf = true)
    (na : aa = none → n = 0) (nb : ab = none → m = 0) (hn63 : n ≤ 9223372036854775807) (hm63 : m ≤ 9223372036854775807) (ha : Runes w aa n fa) (hb : Runes w ab m fb) :
    Calls Yba.prog 3 #[.slice aa n ca, .slice ab m cb, .int .i64 L, .bool sm] w (TruePost w) := by
  by_cases h1 : (512 : Int) < (n : Int)
  · go_enter Yba.func3, Yba.ntmps3
    go_wp2
    go_ret
    exact ⟨rfl, Below.refl _ _⟩
  by_cases h2 : (512 : Int) < (m : Int)
  · go_enter Yba.func3, Yba.ntmps3
    go_wp2
    go_ret
    exact ⟨rfl, Below.refl _ _⟩
  have hn : n ≤ 512 := by omega
  have hm : m ≤ 512 := by omega
  go_enter Yba.func3, Yba.ntmps3
  go_wp2_with fail
  refine (prep_any aa n ca sm fa w hn na ha).mono ?_
  rintro e w1 ⟨a1, c1, g1, rfl, n1, r1, -, b1⟩
  go_wp2_with fail
  refine (prep_any ab m cb sm fb w1 hm nb (hb.later b1)).mono ?_
  rintro e w2 ⟨a2, c2, g2, rfl, n2, r2, -, b2⟩
  go_wp2_with fail
  refine (prep_any a1 n c1 false g1 w2 hn n1 (r1.later b2)).mono ?_
  rintro e w3 ⟨a3, c3, g3, rfl, n3, r3, e3, b3⟩
  replace r3 := r3.congr (e3 rfl)
  clear e3
  go_wp2_with fail
  refine (prep_any a2 m c2 false g2 w3 hm n2 (r2.later b3)).mono ?_
  rintro e w4 ⟨a4, c4, g4, rfl, n4, r4, e4, b4⟩
  replace r4 := r4.congr (e4 rfl)
  clear e4
  go_wp2_with fail
  have ra1 := (r1.later b2).later (past b3 b4)
  have ra2 := r2.later (past b3 b4)
  have ra3 := r3.later b4
  have ra4 := r4
  refine (edit_any a1 a2 n m c1 c2 L g1 g2 w4 hn hm hL ra1 ra2).mono ?_
  rintro e w5 ⟨rfl, b5⟩
  obtain ⟨d, hd⟩ : ∃ d : Int, d = (D g1 g2 n m : Nat) := ⟨_, rfl⟩
  obtain ⟨G, hG⟩ : ∃ G : Int, G = (if L < (D g1 g2 n m : Nat) then L else (D g1 g2 n m : Nat)) := ⟨_, rfl⟩
  rw [← hG]
  have HG : Hid (d = (D g1 g2 n m : Nat) ∧ G = (if L < d then L else d)) := ⟨hd, by rw [hd]; exact hG⟩
  clear hG hd
  go_wp2_with fail
  refine (same_any a1 a3 n c1 c3 g1 w5 hn (ra1.later b5) (ra3.later b5)).mono ?_
  rintro e w6 ⟨rfl, b6⟩
  go_wp2_with fail
  refine (same_any a2 a4 m c2 c4 g2 w6 hm (ra2.later (past b5 b6)) (ra4.later (past b5 b6))).mono ?_
  rintro e w7 ⟨rfl, b7⟩
  go_wp2_with fail
  refine (lev_any a3 a4 n m c3 c4 g1 g2 w7 hn hm (ra3.later (past (past b5 b6) b7)) (ra4.later (past (past b5 b6) b7))).mono ?_
  rintro e w8 ⟨rfl, b8⟩
  have hB : Below w.heap.size w w8 := past (past (past (past (past (past (past b1 b2) b3) b4) b5) b6) b7) b8
  rw [← HG.out.1]
  by_cases hlt : L < d
  · have hGL : G = L := by rw [HG.out.2, if_pos hlt]
    subst hGL
    go_wp2
    go_ret
    exact ⟨by simp, hB⟩
  · have hGL : G = d := by rw [HG.out.2, if_neg hlt]
    subst hGL
    go_wp2
    go_ret
    exact ⟨by simp, hB⟩
end Go.Proofs.Ybulkbtcm
