import Derived.Test.YbulkbtecRoad2
namespace Go.Proofs.Ybulkbtec
open Go.RowKit Plain

theorem road (V0 w : World) (b1 b2 base Bc Bl Bs : Nat) (t1 t2 : ByteArray) (v1 v2 c1 c2 : Value) (b c : Nat → Bool) (xs xt : Nat → Int) (stop : Int) (v : Value) (hx : Ctx V0 w b1 b2 base Bc Bl t1 t2 v1 v2 c1 c2 b c xs xt)
    (hcl : Bc < base) (hll : Bl < base) (hsl : Bs < base) (m1 : Bc ≠ Bl) (m2 : Bc ≠ Bs) (m3 : Bl ≠ Bs) (hst : Lst w base Bc Bl Bs stop [] v) (hs0 : stop ≤ 0 ∨ ((0 : Nat) : Int) < stop) :
    Calls Yba.prog 9 #[.func (.func 8) #[] #[.pointer (some ⟨Bc, 0, none⟩), .pointer (some ⟨Bl, 0, none⟩), .pointer (some ⟨Bs, 0, none⟩)], .pointer (some ⟨b1, 0, none⟩), .pointer (some ⟨b2, 0, none⟩)] w
      (UPost (expL b c xs xt 10) base Bc Bl Bs stop w) := by
  by_cases hs : sameB b c
  · exact road1 V0 w b1 b2 base Bc Bl Bs t1 t2 v1 v2 c1 c2 b c xs xt stop v hx hcl hll hsl m1 m2 m3 hst hs hs0
  · exact road2 V0 w b1 b2 base Bc Bl Bs t1 t2 v1 v2 c1 c2 b c xs xt stop v hx hcl hll hsl m1 m2 m3 hst hs hs0

def UnPost (x0 x1 x2 x3 y0 y1 y2 y3 : Value) (w : World) (e : Ending) (w' : World) : Prop :=
  e = .returned (.func (.func 9) #[] #[.pointer (some ⟨w.heap.size, 0, none⟩), .pointer (some ⟨w.heap.size + 1, 0, none⟩)]) ∧ w' = (w.alloc (.cells #[x0, x1, x2, x3] 27)).alloc (.cells #[y0, y1, y2, y3] 27)
theorem union_any (t1 t2 : ByteArray) (a1 a2 a3 a4 : Option Addr) (n1 n2 n3 n4 d1 d2 d3 d4 : Nat) (w : World) :
    Calls Yba.prog 7 #[.agg #[.string t1, .int .i64 0, .slice a1 n1 d1, .slice a2 n2 d2], .agg #[.string t2, .int .i64 0, .slice a3 n3 d3, .slice a4 n4 d4]] w (UnPost (.string t1) (.int .i64 0) (.slice a1 n1 d1) (.slice a2 n2 d2) (.string t2) (.int .i64 0) (.slice a3 n3 d3) (.slice a4 n4 d4) w) := by
  go_enter Yba.func7, Yba.ntmps7
  go_wp2
  go_ret
  exact ⟨rfl, rfl⟩

theorem Hosts.form {w : World} {t : ByteArray} {v : Value} {b : Nat → Bool} (h : Hosts w t v b) : ∃ a n d, v = .slice a n d := by
  obtain ⟨_, _, h, _⟩ := h
  obtain ⟨a, d, h⟩ := h.form
  exact ⟨a, _, d, h⟩

/-- Two arrays of two u64s, compared: 34 is no type that '==' stops at. -/
theorem Yba.guard34 : Yba.prog.eqGuardType Yba.prog.depth 34 = false := by kernel_rfl
theorem eq34 (x y : Int) (w : World) : (Op.equalIn 10000 34 (.agg #[.int .u64 x, .int .u64 y]) (.agg #[.int .u64 x, .int .u64 y])).run Yba.prog w = .ok true w := by
  show (Op.equalIn (9999 + 1) 34 (.agg #[.int .u64 x, .int .u64 y]) (.agg #[.int .u64 x, .int .u64 y])).run Yba.prog w = .ok true w
  have h32 : ∀ a : Int, ∀ w, (Op.equalIn 9999 32 (.int .u64 a) (.int .u64 a)).run Yba.prog w = .ok true w := fun a w => by
    show (Op.equalIn (9998 + 1) 32 (.int .u64 a) (.int .u64 a)).run Yba.prog w = .ok true w
    rw [run_equalIn_int w 9998 32 .u64 .u64 a a Yba.underlying32]; simp
  have hr : List.range' 0 2 = [0, 1] := rfl
  rw [Op.equalIn]
  simp only [Sem.run_bind, run_underlying Yba.underlying34, Result.andThen_ok]
  simp [go_sem, hr, h32, part]

/-- The two stamps, in memory. -/
structure St (w wx : World) (B1 B2 : Nat) (b c : Nat → Bool) (xs xt : Nat → Int) (t1 t2 : ByteArray) (v1 v2 c1 c2 : Value) : Prop where
  h1 : Hosts wx t1 v1 b
  h2 : Hosts wx t2 v2 c
  u1 : U64s wx c1 (rank b 10) xs
  u2 : U64s wx c2 (rank c 10) xt
  p0 : wx.cell? ⟨B1, 0, none⟩ = some (.string t1)
  p1 : wx.cell? ⟨B1, 1, none⟩ = some (.int .i64 0)
  p2 : wx.cell? ⟨B1, 2, none⟩ = some v1
  p3 : wx.cell? ⟨B1, 3, none⟩ = some c1
  q0 : wx.cell? ⟨B2, 0, none⟩ = some (.string t2)
  q1 : wx.cell? ⟨B2, 1, none⟩ = some (.int .i64 0)
  q2 : wx.cell? ⟨B2, 2, none⟩ = some v2
  q3 : wx.cell? ⟨B2, 3, none⟩ = some c2
  below : Below w.heap.size w wx

theorem row_kept {W : World} {k : Nat} {o : Obj} (h : W.heap[k]? = some o) (o' : Obj) : (W.alloc o').heap[k]? = some o :=
  (((Below.refl W.heap.size W).alloc (Nat.le_refl _) o').block k (Array.getElem?_eq_some_iff.1 h).1).trans h
theorem five (w : World) (o0 o1 o2 o3 o4 : Obj) : Below w.heap.size w (((((w.alloc o0).alloc o1).alloc o2).alloc o3).alloc o4) ∧ (((((w.alloc o0).alloc o1).alloc o2).alloc o3).alloc o4).heap.size = w.heap.size + 5 ∧
    (((((w.alloc o0).alloc o1).alloc o2).alloc o3).alloc o4).heap[w.heap.size]? = some o0 ∧ (((((w.alloc o0).alloc o1).alloc o2).alloc o3).alloc o4).heap[w.heap.size + 1]? = some o1 ∧ (((((w.alloc o0).alloc o1).alloc o2).alloc o3).alloc o4).heap[w.heap.size + 2]? = some o2 ∧
    (((((w.alloc o0).alloc o1).alloc o2).alloc o3).alloc o4).heap[w.heap.size + 3]? = some o3 ∧ (((((w.alloc o0).alloc o1).alloc o2).alloc o3).alloc o4).heap[w.heap.size + 4]? = some o4 := by
  have s0 : (w.alloc o0).heap.size = w.heap.size + 1 := by simp
  have s1 : ((w.alloc o0).alloc o1).heap.size = w.heap.size + 2 := by simp
  have s2 : (((w.alloc o0).alloc o1).alloc o2).heap.size = w.heap.size + 3 := by simp
  have s3 : ((((w.alloc o0).alloc o1).alloc o2).alloc o3).heap.size = w.heap.size + 4 := by simp
  have r1 := heap_alloc_new (w.alloc o0) o1
  have r2 := heap_alloc_new ((w.alloc o0).alloc o1) o2
  have r3 := heap_alloc_new (((w.alloc o0).alloc o1).alloc o2) o3
  have r4 := heap_alloc_new ((((w.alloc o0).alloc o1).alloc o2).alloc o3) o4
  rw [s0] at r1
  rw [s1] at r2
  rw [s2] at r3
  rw [s3] at r4
  exact ⟨(((((Below.refl _ _).alloc (Nat.le_refl _) _).alloc (by simp) _).alloc (by simp; omega) _).alloc (by simp; omega) _).alloc (by simp; omega) _, by simp,
    row_kept (row_kept (row_kept (row_kept (heap_alloc_new w o0) _) _) _) _, row_kept (row_kept (row_kept r1 _) _) _, row_kept (row_kept r2 _) _, row_kept r3 _, r4⟩

/-- How many are wanted. -/
def wanted (stop : Int) (n : Nat) : Int := if 0 < stop ∧ stop < (n : Int) then stop else n
theorem Fin.len {E : List (ByteArray × Int × Int)} {stop : Int} {L : List (ByteArray × Int × Int)} (h : Fin E stop L) : wanted stop E.length = (L.length : Int) ∧ L <+: E := by
  unfold wanted
  rcases h with ⟨rfl, h⟩ | ⟨h1, h2, h3⟩
  · refine ⟨?_, List.prefix_refl _⟩
    split <;> omega
  · refine ⟨?_, h3⟩
    have := h3.length_le
    split <;> omega

def TruePost (w : World) (e : Ending) (w' : World) : Prop := e = .returned (.bool true) ∧ Below w.heap.size w w'

set_option maxHeartbeats 2000000 in
set_option maxRecDepth 100000 in
theorem law_any (m0 m1 : Int) (a2 a3 : Option Addr) (len2 cap2 len3 cap3 : Nat) (f g : Nat → Int) (same : Bool) (st : Int) (w : World) (hs : 0 ≤ st ∧ st ≤ 255)
    (hl2 : len2 ≤ 9223372036854775807) (hl3 : len3 ≤ 9223372036854775807) (ha2 : Args w a2 len2 f) (ha3 : Args w a3 len3 g) :
    Calls Yba.prog 3 #[.int .u16 m0, .int .u16 m1, .slice a2 len2 cap2, .slice a3 len3 cap3, .bool same, .int .u8 st] w (TruePost w) := by
  obtain ⟨sm, hsm⟩ : ∃ sm, bits BinOp.and IntKind.u16 m0 1023 = sm := ⟨_, rfl⟩
  have hsb : 0 ≤ sm ∧ sm ≤ 65535 := by rw [← hsm]; exact bounds_u16 (wf_bits _ _ _ _)
  go_enter Yba.func3, Yba.ntmps3
  go_upto_if 29 with fail
  go_cut [14] (fun v wx => ∃ tm : Int, v = .int .u16 tm ∧ (0 ≤ tm ∧ tm ≤ 65535) ∧ Hid (same = true → tm = sm) ∧ w = wx)
  case first =>
    cases same with
    | true =>
      go_wp2
      go_meet
      exact ⟨sm, rfl, hsb, fun _ => rfl, rfl⟩
    | false =>
      go_wp2
      go_meet
      exact ⟨_, rfl, bounds_u16 (wf_bits _ _ _ _), fun h => by simp at h, rfl⟩
  case rest =>
    obtain ⟨tm, rfl, htb, HT, rfl⟩ := hcut
    go_wp2_with fail
    refine (build_any sm hsb a2 len2 cap2 f hl2 w ha2).mono ?_
    rintro e w1 ⟨vb, vc, rfl, h1, u1, hb1⟩
    obtain ⟨x1, n1, d1, rfl⟩ := h1.form
    obtain ⟨x2, d2, rfl⟩ := u1.form
    obtain ⟨W1, hW1⟩ : ∃ W1, W1 = w1.alloc (.cells #[.string (tx (bt sm) 10), .int .i64 0, .slice x1 n1 d1, .slice x2 (rank (bt sm) 10) d2] 27) := ⟨_, rfl⟩
    have hbW1 : Below w1.heap.size w1 W1 := by rw [hW1]; exact (Below.refl _ _).alloc (Nat.le_refl _) _
    have hsW1 : W1.heap.size = w1.heap.size + 1 := by rw [hW1]; simp
    have hrW1 : W1.heap[w1.heap.size]? = some (.cells #[.string (tx (bt sm) 10), .int .i64 0, .slice x1 n1 d1, .slice x2 (rank (bt sm) 10) d2] 27 (0, 0)) := by rw [hW1]; exact heap_alloc_new _ _
    have hbw1 : Below w.heap.size w W1 := past hb1 hbW1
    go_wp2_with fail
    rw [← hW1]
    clear hW1
    refine (build_any tm htb a3 len3 cap3 g hl3 W1 (ha3.later hbw1)).mono ?_
    rintro e w3 ⟨vb, vc, rfl, h2, u2, hb3⟩
    obtain ⟨y1, n2, e1, rfl⟩ := h2.form
    obtain ⟨y2, e2, rfl⟩ := u2.form
    have hr3 : w3.heap[w1.heap.size]? = some (.cells #[.string (tx (bt sm) 10), .int .i64 0, .slice x1 n1 d1, .slice x2 (rank (bt sm) 10) d2] 27 (0, 0)) := (hb3.block _ (by omega)).trans hrW1
    have hbw3 : Below w.heap.size w w3 := past hbw1 hb3
    have h1' : Hosts w3 (tx (bt sm) 10) (.slice x1 n1 d1) (bt sm) := (h1.later hbW1).later hb3
    have u1' : U64s w3 (.slice x2 (rank (bt sm) 10) d2) (rank (bt sm) 10) (cv f len2) := (u1.later hbW1).later hb3
    have hB1 : w1.heap.size < w3.heap.size := by have := hb3.size; omega
    obtain ⟨B1, hB1e⟩ : ∃ B1, w1.heap.size = B1 := ⟨_, rfl⟩
    rw [hB1e] at hr3 hB1
    rw [hB1e]
    have p0 : w3.cell? ⟨B1, 0, none⟩ = some (.string (tx (bt sm) 10)) := (cell_of_row w3 _ 0 _ _ _ hr3).trans rfl
    have p1 : w3.cell? ⟨B1, 1, none⟩ = some (.int .i64 0) := (cell_of_row w3 _ 1 _ _ _ hr3).trans rfl
    have p2 : w3.cell? ⟨B1, 2, none⟩ = some (.slice x1 n1 d1) := (cell_of_row w3 _ 2 _ _ _ hr3).trans rfl
    have p3 : w3.cell? ⟨B1, 3, none⟩ = some (.slice x2 (rank (bt sm) 10) d2) := (cell_of_row w3 _ 3 _ _ _ hr3).trans rfl
    clear hrW1 hsW1 hbW1 hbw1 hb1 hb3 h1 u1 hB1e hr3
    go_upto_if 37 with fail
    go_cut [16] (fun v wx => v = .pointer (some ⟨w3.heap.size, 0, none⟩) ∧ ∃ t2 a n d, Hosts w3 t2 (.slice a n d) (bt tm) ∧ wx = w3.alloc (.cells #[.string t2, .int .i64 0, .slice a n d, .slice y2 (rank (bt tm) 10) e2] 27))
    case first =>
      cases same with
      | true =>
        have h2' : Hosts w3 (tx (bt sm) 10) (.slice x1 n1 d1) (bt tm) := by rw [HT.out rfl]; exact h1'
        go_wp2
        go_meet
        exact ⟨rfl, _, _, _, _, h2', rfl⟩
      | false =>
        go_wp2
        go_meet
        exact ⟨rfl, _, _, _, _, h2, rfl⟩
    case rest =>
      clear h2
      obtain ⟨rfl, t2, a, nn, d, h2, hW⟩ := hcut
      have hbW : Below w3.heap.size w3 wc := by rw [hW]; exact (Below.refl _ _).alloc (Nat.le_refl _) _
      have hrW : wc.heap[w3.heap.size]? = some (.cells #[.string t2, .int .i64 0, .slice a nn d, .slice y2 (rank (bt tm) 10) e2] 27 (0, 0)) := by rw [hW]; exact heap_alloc_new _ _
      have hsW : wc.heap.size = w3.heap.size + 1 := by rw [hW]; simp
      clear hW
      obtain ⟨B2, hB2e⟩ : ∃ B2, w3.heap.size = B2 := ⟨_, rfl⟩
      rw [hB2e] at hrW hsW hB1
      rw [hB2e]
      have q0 : wc.cell? ⟨B2, 0, none⟩ = some (.string t2) := (cell_of_row wc _ 0 _ _ _ hrW).trans rfl
      have q1 : wc.cell? ⟨B2, 1, none⟩ = some (.int .i64 0) := (cell_of_row wc _ 1 _ _ _ hrW).trans rfl
      have q2 : wc.cell? ⟨B2, 2, none⟩ = some (.slice a nn d) := (cell_of_row wc _ 2 _ _ _ hrW).trans rfl
      have q3 : wc.cell? ⟨B2, 3, none⟩ = some (.slice y2 (rank (bt tm) 10) e2) := (cell_of_row wc _ 3 _ _ _ hrW).trans rfl
      have hSt : St w wc B1 B2 (bt sm) (bt tm) (cv f len2) (cv g len3) (tx (bt sm) 10) t2 (.slice x1 n1 d1) (.slice a nn d) (.slice x2 (rank (bt sm) 10) d2) (.slice y2 (rank (bt tm) 10) e2) :=
        ⟨h1'.later hbW, h2.later hbW, u1'.later hbW, u2.later hbW, bc hbW p0, bc hbW p1, bc hbW p2, bc hbW p3, q0, q1, q2, q3, past hbw3 hbW⟩
      have hb2b : B2 < wc.heap.size := by omega
      have hb1b : B1 < wc.heap.size := by omega
      clear hrW hsW q0 q1 q2 q3 p0 p1 p2 p3 h1' h2 u1' u2 hbW hB2e hbw3 hB1
      go_wp2
      go_loopg [17, 18] 10 (fun gg v vk wr => ∃ (K : Nat) (a' : Option Addr) (c' : Nat), K ≤ 10 ∧ gg = 10 - K ∧ v = .slice a' (expL (bt sm) (bt tm) (cv f len2) (cv g len3) K).length c' ∧ vk = .int .i64 K ∧ OwnE wr wc.heap.size (.slice a' (expL (bt sm) (bt tm) (cv f len2) (cv g len3) K).length c') (expL (bt sm) (bt tm) (cv f len2) (cv g len3) K) ∧ Below wc.heap.size wc wr)
      case atStart => exact ⟨0, none, 0, by omega, rfl, rfl, rfl, OwnE.nil _ _, Below.refl _ _⟩
      case round =>
        obtain ⟨K, a', c', hK, rfl, rfl, rfl, hown, hbr⟩ := hrel
        have hel := expL_len (bt sm) (bt tm) (cv f len2) (cv g len3) K
        by_cases hlt : K < 10
        · cases h1 : bt sm K with
          | true =>
            obtain ⟨v4, w4, hap, ho4, hs4⟩ := append_e wr wc.heap.size _ _ (nm K) (ck (bt sm) f len2 K) (ck (bt tm) g len3 K) hown (by omega) hbr.size
            have HL : Hid (expL (bt sm) (bt tm) (cv f len2) (cv g len3) (K + 1) = expL (bt sm) (bt tm) (cv f len2) (cv g len3) K ++ [(nm K, ck (bt sm) f len2 K, ck (bt tm) g len3 K)]) := expL_yes (by rw [h1]; rfl)
            have hb4 : Below wc.heap.size wc w4 := hbr.trans (hs4.below hbr.size (fun k hk => (World.ownsRow.lt hown k hk).1))
            obtain ⟨a4, c4, rfl⟩ := ho4.form
            rw [← HL.out] at ho4 hap
            have hA2 := ha2.later (past hSt.below hbr)
            have hA3 := ha3.later (past hSt.below hbr)
            clear hs4 hown hel
            have f1 := bt_yes h1
            clear h1
            go_wp2_with (go_at_call 5; refine (nm_any K hlt _).mono ?_; rintro e w' ⟨rfl, rfl⟩)
            refine (cnt_any sm hsb a2 len2 cap2 K f hl2 hlt _ hA2).mono ?_
            rintro e w' ⟨rfl, rfl⟩
            go_wp2_with fail
            refine (cnt_any tm htb a3 len3 cap3 K g hl3 hlt _ hA3).mono ?_
            rintro e w' ⟨rfl, rfl⟩
            go_wp2_with (at_builtin; refine wpList_append_run rfl rfl rfl hap rfl rfl ?_)
            go_roundg (10 - (K + 1))
            case measure => omega
            case rel => exact ⟨K + 1, a4, c4, by omega, rfl, rfl, by go_num, ho4, hb4⟩
          | false =>
            cases h2 : bt tm K with
            | true =>
              obtain ⟨v4, w4, hap, ho4, hs4⟩ := append_e wr wc.heap.size _ _ (nm K) (ck (bt sm) f len2 K) (ck (bt tm) g len3 K) hown (by omega) hbr.size
              have HL : Hid (expL (bt sm) (bt tm) (cv f len2) (cv g len3) (K + 1) = expL (bt sm) (bt tm) (cv f len2) (cv g len3) K ++ [(nm K, ck (bt sm) f len2 K, ck (bt tm) g len3 K)]) := expL_yes (by rw [h1, h2]; rfl)
              have hb4 : Below wc.heap.size wc w4 := hbr.trans (hs4.below hbr.size (fun k hk => (World.ownsRow.lt hown k hk).1))
              obtain ⟨a4, c4, rfl⟩ := ho4.form
              rw [← HL.out] at ho4 hap
              have hA2 := ha2.later (past hSt.below hbr)
              have hA3 := ha3.later (past hSt.below hbr)
              clear hs4 hown hel
              have f1 := bt_no h1
              have f2 := bt_yes h2
              clear h1 h2
              go_wp2_with (go_at_call 5; refine (nm_any K hlt _).mono ?_; rintro e w' ⟨rfl, rfl⟩)
              refine (cnt_any sm hsb a2 len2 cap2 K f hl2 hlt _ hA2).mono ?_
              rintro e w' ⟨rfl, rfl⟩
              go_wp2_with fail
              refine (cnt_any tm htb a3 len3 cap3 K g hl3 hlt _ hA3).mono ?_
              rintro e w' ⟨rfl, rfl⟩
              go_wp2_with (at_builtin; refine wpList_append_run rfl rfl rfl hap rfl rfl ?_)
              go_roundg (10 - (K + 1))
              case measure => omega
              case rel => exact ⟨K + 1, a4, c4, by omega, rfl, rfl, by go_num, ho4, hb4⟩
            | false =>
              have HL : Hid (expL (bt sm) (bt tm) (cv f len2) (cv g len3) (K + 1) = expL (bt sm) (bt tm) (cv f len2) (cv g len3) K) := expL_no (by rw [h1, h2]; rfl)
              have f1 := bt_no h1
              have f2 := bt_no h2
              clear h1 h2
              go_wp2
              go_roundg (10 - (K + 1))
              case measure => omega
              case rel => exact ⟨K + 1, a', c', by omega, rfl, by rw [HL.out], by go_num, by rw [HL.out]; exact hown, hbr⟩
        · obtain rfl : K = 10 := by omega
          obtain ⟨E, hE⟩ : ∃ E, expL (bt sm) (bt tm) (cv f len2) (cv g len3) 10 = E := ⟨_, rfl⟩
          rw [hE] at hown hel
          rw [hE]
          have HE : Hid (expL (bt sm) (bt tm) (cv f len2) (cv g len3) 10 = E) := hE
          clear hE
          obtain ⟨n, hn⟩ : ∃ n, E.length = n := ⟨_, rfl⟩
          rw [hn] at hown hel
          rw [hn]
          have HN : Hid (E.length = n) := hn
          clear hn
          obtain ⟨stop, hstop⟩ : ∃ stop, st % 12 = stop := ⟨_, rfl⟩
          have hs12 : 0 ≤ stop ∧ stop < 12 := by omega
          have HW : Hid (wanted stop n = if 0 < stop ∧ stop < (n : Int) then stop else n) := rfl
          go_upto_region 17 with fail
          rw [hstop]
          clear hstop
          go_cut [85] (fun v wx => v = .bool (decide (0 < stop ∧ stop < (n : Int))) ∧ wx = wr.alloc (.cells #[.int .i64 stop] 3))
          case first =>
            by_cases t1 : 0 < stop
            · by_cases t2 : stop < (n : Int)
              · have HD : Hid (decide (0 < stop ∧ stop < (n : Int)) = true) := by show _ = _; simp [t1, t2]
                go_wp2
                go_meet
                exact ⟨congrArg Value.bool HD.out.symm, rfl⟩
              · have HD : Hid (decide (0 < stop ∧ stop < (n : Int)) = false) := by show _ = _; simp [t1]; omega
                go_wp2
                go_meet
                exact ⟨congrArg Value.bool HD.out.symm, rfl⟩
            · have HD : Hid (decide (0 < stop ∧ stop < (n : Int)) = false) := by show _ = _; simp [t1]
              go_wp2
              go_meet
              exact ⟨congrArg Value.bool HD.out.symm, rfl⟩
          case rest =>
            obtain ⟨rfl, rfl⟩ := hcut
            go_upto_if 85 with fail
            go_cut [20] (fun v wx => v = .int .i64 (wanted stop n) ∧ wx = wr.alloc (.cells #[.int .i64 stop] 3))
            case first =>
              by_cases t1 : 0 < stop ∧ stop < (n : Int)
              · have hd : decide (0 < stop ∧ stop < (n : Int)) = true := by simpa using t1
                rw [hd]
                have HV : Hid (wanted stop n = stop) := by show _ = _; unfold wanted; rw [if_pos t1]
                clear hd t1
                go_wp2
                go_meet
                exact ⟨by rw [HV.out], rfl⟩
              · have hd : decide (0 < stop ∧ stop < (n : Int)) = false := by simpa using t1
                rw [hd]
                have HV : Hid (wanted stop n = n) := by show _ = _; unfold wanted; rw [if_neg t1]
                clear hd t1
                go_wp2
                go_meet
                exact ⟨by rw [HV.out], rfl⟩
            case rest =>
              obtain ⟨rfl, rfl⟩ := hcut
              obtain ⟨wt, hwt⟩ : ∃ wt, wanted stop n = wt := ⟨_, rfl⟩
              rw [hwt]
              have HWT : Hid (wanted stop n = wt) := hwt
              clear hwt HW
              go_upto_region 21 with fail
              obtain ⟨W3, hW3⟩ : ∃ W3, W3 = ((wr.alloc (.cells #[.int .i64 stop] 3)).alloc (.cells #[.slice none 0 0] 29)).alloc (.cells #[.int .i64 0] 3) := ⟨_, rfl⟩
              have hbW3 : Below wr.heap.size wr W3 := by rw [hW3]; exact (((Below.refl _ _).alloc (Nat.le_refl _) _).alloc (by simp) _).alloc (by simp; omega) _
              have hsW3 : W3.heap.size = wr.heap.size + 3 := by rw [hW3]; simp
              rw [← hW3]
              have HW3 : Hid (W3 = ((wr.alloc (.cells #[.int .i64 stop] 3)).alloc (.cells #[.slice none 0 0] 29)).alloc (.cells #[.int .i64 0] 3)) := hW3
              clear hW3
              have hb3 := past hbr hbW3
              have k0 := bc hb3 hSt.p0
              have k1 := bc hb3 hSt.p1
              have k2 := bc hb3 hSt.p2
              have k3 := bc hb3 hSt.p3
              have l0 := bc hb3 hSt.q0
              have l1 := bc hb3 hSt.q1
              have l2 := bc hb3 hSt.q2
              have l3 := bc hb3 hSt.q3
              go_wp2_with fail
              refine (union_any _ _ _ _ _ _ _ _ _ _ _ _ _ _ _).mono ?_
              rintro e w8 ⟨rfl, hw8⟩
              clear k0 k1 k2 k3 l0 l1 l2 l3
              rw [HW3.out] at hw8
              rw [hsW3]
              obtain ⟨f1, f2, f3, f4, f5, f6, f7⟩ := five wr (.cells #[.int .i64 stop] 3) (.cells #[.slice none 0 0] 29) (.cells #[.int .i64 0] 3) (.cells #[.string (tx (bt sm) 10), .int .i64 0, .slice x1 n1 d1, .slice x2 (rank (bt sm) 10) d2] 27) (.cells #[.string t2, .int .i64 0, .slice a nn d, .slice y2 (rank (bt tm) 10) e2] 27)
              rw [← hw8] at f1 f2 f3 f4 f5 f6 f7
              clear hw8
              have hCtx : Ctx wr w8 (wr.heap.size + 3) (wr.heap.size + 4) w8.heap.size (wr.heap.size + 2) (wr.heap.size + 1) (tx (bt sm) 10) t2 (.slice x1 n1 d1) (.slice a nn d) (.slice x2 (rank (bt sm) 10) d2) (.slice y2 (rank (bt tm) 10) e2) (bt sm) (bt tm) (cv f len2) (cv g len3) :=
                ⟨hSt.h1.later hbr, hSt.h2.later hbr, hSt.u1.later hbr, hSt.u2.later hbr, (cell_of_row w8 _ 0 _ _ _ f6).trans rfl, (cell_of_row w8 _ 1 _ _ _ f6).trans rfl, (cell_of_row w8 _ 2 _ _ _ f6).trans rfl, (cell_of_row w8 _ 3 _ _ _ f6).trans rfl,
                 (cell_of_row w8 _ 0 _ _ _ f7).trans rfl, (cell_of_row w8 _ 1 _ _ _ f7).trans rfl, (cell_of_row w8 _ 2 _ _ _ f7).trans rfl, (cell_of_row w8 _ 3 _ _ _ f7).trans rfl, by omega, by omega, by omega, f1⟩
              have hLst : Lst w8 w8.heap.size (wr.heap.size + 2) (wr.heap.size + 1) wr.heap.size stop [] (.slice none 0 0) :=
                ⟨(cell_of_row w8 _ 0 _ _ _ f5).trans rfl, frozen_of_row w8 _ 0 _ _ f5, (cell_of_row w8 _ 0 _ _ _ f4).trans rfl, frozen_of_row w8 _ 0 _ _ f4, (cell_of_row w8 _ 0 _ _ _ f3).trans rfl, OwnE.nil _ _, Nat.le_refl _⟩
              have hroad := road wr w8 (wr.heap.size + 3) (wr.heap.size + 4) w8.heap.size (wr.heap.size + 2) (wr.heap.size + 1) wr.heap.size _ _ _ _ _ _ _ _ _ _ stop _ hCtx (by omega) (by omega) (by omega) (by omega) (by omega) (by omega) hLst (by omega)
              rw [HE.out] at hroad
              have hbw8 : Below w.heap.size w w8 := past (past hSt.below hbr) f1
              clear hCtx hLst f3 f4 f5 f6 f7 HW3 hsW3 hbW3 hb3
              go_wp2_with fail
              refine hroad.mono ?_
              clear hroad
              rintro e w9 ⟨rfl, ⟨L, v, hF, hL⟩, hkp⟩
              obtain ⟨hlw, hpre⟩ := hF.len
              rw [HN.out, HWT.out] at hlw
              subst hlw
              obtain ⟨a9, c9, rfl⟩ := hL.own.form
              have hlc := hL.c
              have hll := hL.l
              have hl10 := hpre.length_le
              rw [HN.out] at hl10
              obtain ⟨l, hl⟩ : ∃ l, L.length = l := ⟨_, rfl⟩
              rw [hl] at hlc hll hl10
              have hlo := hL.own
              rw [hl] at hlo
              rw [hl]
              have HLL : Hid (L.length = l) := hl
              have hb9 : Below w.heap.size w w9 := hbw8.trans ⟨hkp.os, hkp.tape, hkp.output, hkp.size, fun k hk => hkp.block k (by have := hbw8.size; omega) (by have := hSt.below.size; have := hbr.size; omega) (by have := hSt.below.size; have := hbr.size; omega)⟩
              have hcw : ∀ gb j v, wr.cell? ⟨gb, j, none⟩ = some v → w9.cell? ⟨gb, j, none⟩ = some v := fun gb j v h => by
                have h1 := World.block_lt_of_cell? _ _ h
                simp only at h1
                exact hkp.cell (by omega) (bc f1 h)
              clear hF hL hl hkp hbw8
              go_wp2
              go_loopg [24] l (fun gg v wx => ∃ i : Nat, i ≤ l ∧ gg = l - i ∧ v = .int .i64 i ∧ Below w9.heap.size w9 wx)
              case atStart => exact ⟨0, by omega, rfl, rfl, Below.refl _ _⟩
              case round =>
                rename_i wx
                obtain ⟨i, hi, rfl, rfl, hbx⟩ := hrel
                by_cases hil : i < l
                · obtain ⟨⟨h, x, y⟩, he⟩ : ∃ e, L[i]? = some e := ⟨_, List.getElem?_eq_getElem (by rw [HLL.out]; exact hil)⟩
                  have he' : E[i]? = some (h, x, y) := by
                    obtain ⟨T, hT⟩ := hpre
                    rw [← hT, List.getElem?_append_left (by rw [HLL.out]; exact hil)]
                    exact he
                  obtain ⟨g1, rfl, q0, q1, q2⟩ := hlo.cell i _ he
                  obtain ⟨g2, rfl, r0, r1, r2⟩ := hown.cell i _ he'
                  have hlx := bc hbx hll
                  have q0' := bc hbx q0
                  have q1' := bc hbx q1
                  have q2' := bc hbx q2
                  have r0' := bc hbx (hcw _ _ _ r0)
                  have r1' := bc hbx (hcw _ _ _ r1)
                  have r2' := bc hbx (hcw _ _ _ r2)
                  have hin : i < n := by omega
                  have hq34 := eq34 x y
                  have hg34 := Yba.guard34
                  clear q0 q1 q2 r0 r1 r2 he he' hcw hll hlc
                  go_wp2
                  go_quiet (fail)
                  go_wp2
                  go_roundg (l - (i + 1))
                  case measure => omega
                  case rel => exact ⟨i + 1, by omega, rfl, by go_num, ⟨hbx.os, hbx.tape, hbx.output, hbx.size, hbx.block⟩⟩
                · go_wp2
                  go_ret
                  exact ⟨rfl, past hb9 hbx⟩
end Go.Proofs.Ybulkbtec
