import Derived.Test.YbulkbtggBase
namespace Go.Proofs.Ybulkbtgg
open Go.RowKit Plain

/-- A chunk's slice; the first chunk's. -/
def sv (wd : Nat) (c : Nat × Nat) : Value := .slice (some ⟨c.1, 0, none⟩) (c.2 * wd) (c.2 * wd)
def hd (wd : Nat) : List (Nat × Nat) → Value
  | [] => .slice none 0 0
  | c :: _ => sv wd c
/-- The free room, k rows kept. -/
def Free (wd : Nat) (cs : List (Nat × Nat)) (k : Nat) (rv : Value) : Prop :=
  (cs = [] ∧ k = 0 ∧ rv = .slice none 0 0) ∨ ∃ pre g s o ad, cs = pre ++ [(g, s)] ∧ k = tot pre + o ∧ o ≤ s ∧ rv = .slice (some ad) ((s - o) * wd) ((s - o) * wd) ∧ (o < s → ad = ⟨g, o * (wd * 4), none⟩)
theorem len_tot : ∀ {cs : List (Nat × Nat)}, (∀ c ∈ cs, 1 ≤ c.2) → cs.length ≤ tot cs
  | [] => fun _ => Nat.le_refl _
  | c :: r => fun h => by
    have h1 := h c (by simp)
    have h2 := len_tot (cs := r) (fun x hx => h x (by simp [hx]))
    simp only [List.length_cons, tot]; omega
/-- The five cells of a resultRows at the block R. -/
structure Rc (w : World) (R base : Nat) (x0 x1 x2 x3 x4 : Value) : Prop where
  c0 : w.cell? ⟨R, 0, none⟩ = some x0
  c1 : w.cell? ⟨R, 1, none⟩ = some x1
  c2 : w.cell? ⟨R, 2, none⟩ = some x2
  c3 : w.cell? ⟨R, 3, none⟩ = some x3
  c4 : w.cell? ⟨R, 4, none⟩ = some x4
  fz : ∀ j, w.frozen? ⟨R, j, none⟩ = false
  lt : R < base
  size : base ≤ w.heap.size
theorem Rc.below {w w' : World} {R base : Nat} {x0 x1 x2 x3 x4 : Value} (h : Rc w R base x0 x1 x2 x3 x4) (hb : Below base w w') : Rc w' R base x0 x1 x2 x3 x4 :=
  ⟨(hb.cell (p := ⟨R, 0, none⟩) h.lt).trans h.c0, (hb.cell (p := ⟨R, 1, none⟩) h.lt).trans h.c1, (hb.cell (p := ⟨R, 2, none⟩) h.lt).trans h.c2, (hb.cell (p := ⟨R, 3, none⟩) h.lt).trans h.c3, (hb.cell (p := ⟨R, 4, none⟩) h.lt).trans h.c4,
   fun j => (hb.frozen (p := ⟨R, j, none⟩) h.lt).trans (h.fz j), h.lt, Nat.le_trans h.size hb.size⟩
theorem Rc.set1 {w : World} {R base : Nat} {x0 x1 x2 x3 x4 : Value} (h : Rc w R base x0 x1 x2 x3 x4) (v : Value) : Rc (w.setCell ⟨R, 1, none⟩ v) R base x0 v x2 x3 x4 :=
  ⟨(World.cell?_setCell_other _ _ _ _ (by simp)).trans h.c0, World.cell?_setCell_same _ _ _ h.c1, (World.cell?_setCell_other _ _ _ _ (by simp)).trans h.c2, (World.cell?_setCell_other _ _ _ _ (by simp)).trans h.c3, (World.cell?_setCell_other _ _ _ _ (by simp)).trans h.c4,
   fun j => by rw [World.frozen?_setCell]; exact h.fz j, h.lt, by simpa using h.size⟩
theorem Rc.set2 {w : World} {R base : Nat} {x0 x1 x2 x3 x4 : Value} (h : Rc w R base x0 x1 x2 x3 x4) (v : Value) : Rc (w.setCell ⟨R, 2, none⟩ v) R base x0 x1 v x3 x4 :=
  ⟨(World.cell?_setCell_other _ _ _ _ (by simp)).trans h.c0, (World.cell?_setCell_other _ _ _ _ (by simp)).trans h.c1, World.cell?_setCell_same _ _ _ h.c2, (World.cell?_setCell_other _ _ _ _ (by simp)).trans h.c3, (World.cell?_setCell_other _ _ _ _ (by simp)).trans h.c4,
   fun j => by rw [World.frozen?_setCell]; exact h.fz j, h.lt, by simpa using h.size⟩
theorem Rc.set3 {w : World} {R base : Nat} {x0 x1 x2 x3 x4 : Value} (h : Rc w R base x0 x1 x2 x3 x4) (v : Value) : Rc (w.setCell ⟨R, 3, none⟩ v) R base x0 x1 x2 v x4 :=
  ⟨(World.cell?_setCell_other _ _ _ _ (by simp)).trans h.c0, (World.cell?_setCell_other _ _ _ _ (by simp)).trans h.c1, (World.cell?_setCell_other _ _ _ _ (by simp)).trans h.c2, World.cell?_setCell_same _ _ _ h.c3, (World.cell?_setCell_other _ _ _ _ (by simp)).trans h.c4,
   fun j => by rw [World.frozen?_setCell]; exact h.fz j, h.lt, by simpa using h.size⟩
theorem Rc.set4 {w : World} {R base : Nat} {x0 x1 x2 x3 x4 : Value} (h : Rc w R base x0 x1 x2 x3 x4) (v : Value) : Rc (w.setCell ⟨R, 4, none⟩ v) R base x0 x1 x2 x3 v :=
  ⟨(World.cell?_setCell_other _ _ _ _ (by simp)).trans h.c0, (World.cell?_setCell_other _ _ _ _ (by simp)).trans h.c1, (World.cell?_setCell_other _ _ _ _ (by simp)).trans h.c2, (World.cell?_setCell_other _ _ _ _ (by simp)).trans h.c3, World.cell?_setCell_same _ _ _ h.c4,
   fun j => by rw [World.frozen?_setCell]; exact h.fz j, h.lt, by simpa using h.size⟩
theorem OwnV.setR {E : TypeId} {w : World} {base : Nat} {v : Value} {l : List Value} (h : OwnV E w base v l) {R j : Nat} (hR : R < base) (u : Value) : OwnV E (w.setCell ⟨R, j, none⟩ u) base v l :=
  ownsRow_setCell_below h (a := ⟨R, j, none⟩) hR u
structure Rs (w : World) (R base wd k : Nat) (cs : List (Nat × Nat)) (mv rv : Value) : Prop where
  rc : Rc w R base (.int .i64 (wd : Int)) (hd wd cs) mv rv (.int .i64 (k : Int))
  own : OwnV 24 w base mv (cs.tail.map (sv wd))
  free : Free wd cs k rv
  pos : ∀ c ∈ cs, 1 ≤ c.2
/-- From w to w' nothing old has turned but the block R and the own block of mv. -/
structure Fr (R : Nat) (w w' : World) (mv mv' : Value) : Prop where
  os : w'.os = w.os
  tape : w'.tape = w.tape
  output : w'.output = w.output
  size : w.heap.size ≤ w'.heap.size
  block : ∀ b, b < w.heap.size → b ≠ R → mv.ownBlock ≠ some b → w'.heap[b]? = w.heap[b]?
  own : mv'.ownBlock = mv.ownBlock ∨ ∀ k, mv'.ownBlock = some k → w.heap.size ≤ k
theorem Fr.of_below {R : Nat} {w w' : World} (mv : Value) (h : Below w.heap.size w w') : Fr R w w' mv mv := ⟨h.os, h.tape, h.output, h.size, fun b hb _ _ => h.block b hb, .inl rfl⟩

/-- What next hands back: the room of row k. -/
def NPost (R base wd k : Nat) (cs : List (Nat × Nat)) (mv : Value) (w : World) (e : Ending) (w' : World) : Prop :=
  ∃ pre g s o cs' mv' rv', e = .returned (.slice (some ⟨g, o * (wd * 4), none⟩) wd wd) ∧ cs' = pre ++ [(g, s)] ∧ k = tot pre + o ∧ o < s ∧ (cs' = cs ∨ ∃ x, cs' = cs ++ [x] ∧ k = tot cs) ∧ Rs w' R base wd k cs' mv' rv' ∧ Fr R w w' mv mv'

theorem Rs.below {w w' : World} {R base wd k : Nat} {cs : List (Nat × Nat)} {mv rv : Value} (h : Rs w R base wd k cs mv rv) (hb : Below w.heap.size w w') : Rs w' R base wd k cs mv rv :=
  ⟨h.rc.below (hb.mono h.rc.size), h.own.below hb, h.free, h.pos⟩
theorem Fr.setR {R j : Nat} {w w' : World} {mv mv' : Value} (h : Fr R w w' mv mv') (u : Value) : Fr R w (w'.setCell ⟨R, j, none⟩ u) mv mv' :=
  ⟨h.os, h.tape, h.output, by simpa using h.size, fun b hb hn hm => (Below.heap_setCell _ _ _ _ hn).trans (h.block b hb hn hm), h.own⟩
theorem Fr.later {R : Nat} {w w' w'' : World} {mv mv' : Value} (h : Fr R w w' mv mv') (hb : Below w'.heap.size w' w'') : Fr R w w'' mv mv' :=
  ⟨hb.os.trans h.os, hb.tape.trans h.tape, hb.output.trans h.output, Nat.le_trans h.size hb.size, fun b h1 h2 h3 => (hb.block b (Nat.lt_of_lt_of_le h1 h.size)).trans (h.block b h1 h2 h3), h.own⟩
theorem Fr.step {R : Nat} {w w' w'' : World} {mv mv' mv'' : Value} (h : Fr R w w' mv mv') (hs : Step w' w'' mv' mv'') : Fr R w w'' mv mv'' := by
  obtain ⟨g, o⟩ := hs
  refine ⟨g.os.trans h.os, g.tape.trans h.tape, g.output.trans h.output, Nat.le_trans h.size g.size, fun b h1 h2 h3 => ?_, ?_⟩
  · refine (g.block b (Nat.lt_of_lt_of_le h1 h.size) (fun e => ?_)).trans (h.block b h1 h2 h3)
    rcases h.own with o1 | o1
    · exact h3 (by rw [← o1]; exact e.symm)
    · have := o1 b e.symm; omega
  · rcases o with o | o
    · rcases h.own with o1 | o1
      · exact .inl (o.trans o1)
      · exact .inr fun k hk => o1 k (by rw [← o]; exact hk)
    · exact .inr fun k hk => Nat.le_trans h.size (o k hk)
theorem same_drawn (w : World) (q : Nat) : Below w.heap.size w (w.drewN q) := ⟨rfl, rfl, rfl, Nat.le_refl _, fun _ _ => rfl⟩

set_option maxHeartbeats 1000000 in
theorem next_room (w : World) (R base wd k : Nat) (pre : List (Nat × Nat)) (g s o : Nat) (mv : Value) (hwd : 0 < wd ∧ wd < 8) (ho : o < s) (hk : k = tot pre + o) (h : Rs w R base wd k (pre ++ [(g, s)]) mv (.slice (some ⟨g, o * (wd * 4), none⟩) ((s - o) * wd) ((s - o) * wd))) :
    Calls Yba.prog 5 #[.pointer (some ⟨R, 0, none⟩)] w (NPost R base wd k (pre ++ [(g, s)]) mv w) := by
  obtain ⟨N, hN⟩ : ∃ N, (s - o) * wd = N := ⟨_, rfl⟩
  have hNw : wd ≤ N := by rw [← hN]; exact Nat.le_mul_of_pos_left _ (by omega)
  have c0 := h.rc.c0
  have c3 := h.rc.c3
  rw [hN] at c3
  have HH : Hid (Rs w R base wd k (pre ++ [(g, s)]) mv (.slice (some ⟨g, o * (wd * 4), none⟩) ((s - o) * wd) ((s - o) * wd))) := h
  clear h hN
  obtain ⟨q, hq⟩ : ∃ q, o * (wd * 4) = q := ⟨_, rfl⟩
  rw [hq] at c3
  go_enter Yba.func5, Yba.ntmps5
  go_wp2_with fail
  go_quiet (fail)
  go_wp2
  go_quiet (fail)
  go_wp2
  go_ret
  exact ⟨pre, g, s, o, _, mv, _, by rw [hq]; rfl, rfl, hk, ho, .inl rfl, HH.out.below ⟨rfl, rfl, rfl, Nat.le_refl _, fun _ _ => rfl⟩, Fr.of_below mv ⟨rfl, rfl, rfl, Nat.le_refl _, fun _ _ => rfl⟩⟩

theorem eqnil24 (w : World) (a : Option Addr) (n c : Nat) : (binOp .eql 24 (.slice a n c) (.slice none 0 0)).run Yba.prog w = .ok (.bool a.isNone) w := Lib.run_eql_slice_nil w 24 33 a n c 0 0 Yba.underlying24
theorem eqnil25 (w : World) (a : Option Addr) (n c : Nat) : (binOp .eql 25 (.slice a n c) (.slice none 0 0)).run Yba.prog w = .ok (.bool a.isNone) w := Lib.run_eql_slice_nil w 25 24 a n c 0 0 Yba.underlying25

/-- How many rows the new chunk is to hold. -/
theorem chunk_rows {wd : Nat} {z : Int} (hwd : 0 < wd ∧ wd < 8) (hz : z = 1 ∨ (1 < z ∧ z ≤ 1024 / (wd : Int))) : ∃ s : Nat, z = (s : Int) ∧ 1 ≤ s ∧ s * wd ≤ 1024 := by
  rcases hz with rfl | ⟨h1, h2⟩
  · exact ⟨1, rfl, by omega, by omega⟩
  · obtain ⟨s, rfl⟩ := Int.eq_ofNat_of_zero_le (show 0 ≤ z by omega)
    refine ⟨s, rfl, by omega, ?_⟩
    have e : (1024 : Int) / (wd : Int) = ((1024 / wd : Nat) : Int) := by rw [Int.natCast_ediv]; rfl
    have h3 : s ≤ 1024 / wd := by rw [e] at h2; omega
    calc s * wd ≤ 1024 / wd * wd := Nat.mul_le_mul_right _ h3
      _ ≤ 1024 := Nat.div_mul_le_self _ _

set_option maxHeartbeats 1000000 in
theorem next_make (w : World) (R base wd k : Nat) (cs : List (Nat × Nat)) (ao : Option Addr) (mv : Value) (hwd : 0 < wd ∧ wd < 8) (hk1 : k ≤ 1024) (hk : k = tot cs) (h : Rs w R base wd k cs mv (.slice ao 0 0)) :
    Calls Yba.prog 5 #[.pointer (some ⟨R, 0, none⟩)] w (NPost R base wd k cs mv w) := by
  have c0 := h.rc.c0
  have c3 := h.rc.c3
  have c4 := h.rc.c4
  have HH : Hid (Rs w R base wd k cs mv (.slice ao 0 0)) := h
  have HK : Hid (k = tot cs) := hk
  clear h hk
  go_enter Yba.func5, Yba.ntmps5
  go_wp2_with fail
  go_quiet (fail)
  go_upto_region 2 with fail
  go_cut [3] (fun v wx => ∃ z : Int, v = .int .i64 z ∧ Hid (z = 1 ∨ (1 < z ∧ z ≤ 1024 / (wd : Int))) ∧ Below w.heap.size w wx)
  case first =>
    obtain ⟨D, hD⟩ : ∃ D : Int, 1024 / (wd : Int) = D := ⟨_, rfl⟩
    by_cases t1 : D < (k : Int)
    · by_cases t2 : 1 < D
      · go_quiet (fail)
        go_wp2
        go_meet
        exact ⟨_, rfl, .inr ⟨t2, by omega⟩, ⟨rfl, rfl, rfl, Nat.le_refl _, fun _ _ => rfl⟩⟩
      · go_quiet (fail)
        go_wp2
        go_meet
        exact ⟨_, rfl, .inl rfl, ⟨rfl, rfl, rfl, Nat.le_refl _, fun _ _ => rfl⟩⟩
    · by_cases t2 : 1 < (k : Int)
      · go_quiet (fail)
        go_wp2
        go_meet
        exact ⟨_, rfl, .inr ⟨t2, by omega⟩, ⟨rfl, rfl, rfl, Nat.le_refl _, fun _ _ => rfl⟩⟩
      · go_quiet (fail)
        go_wp2
        go_meet
        exact ⟨_, rfl, .inl rfl, ⟨rfl, rfl, rfl, Nat.le_refl _, fun _ _ => rfl⟩⟩
  case rest =>
    obtain ⟨z, rfl, HZ, hb1⟩ := hcut
    obtain ⟨s, rfl, hs1, hs2⟩ := chunk_rows hwd HZ.out
    obtain ⟨N, hN⟩ : ∃ N, N = s * wd := ⟨_, rfl⟩
    have hN1 : (s : Int) * (wd : Int) = (N : Int) := by rw [hN]; simp
    rw [← hN] at hs2
    obtain ⟨cc, hmk⟩ := make_v N (by omega)
    have HN : Hid (N = s * wd) := hN
    clear hN c0 c3 c4 HZ
    have h2 := HH.out.below hb1
    have hrc := h2.rc.below (((Below.refl _ _).alloc (Nat.le_refl _) (.cells cc 33)).mono h2.rc.size)
    have hown : OwnV 24 (wc.alloc (.cells cc 33)) base mv (cs.tail.map (sv wd)) := h2.own.below ((Below.refl _ _).alloc (Nat.le_refl _) _)
    have c0 := h2.rc.c0
    have c3 := hrc.c3
    have f3 := hrc.fz 3
    have hpos := len_tot h2.pos
    have hall := h2.pos
    have hR := h2.rc.lt
    have hfr : Fr R w wc mv mv := Fr.of_below mv hb1
    have hfr2 := (hfr.later ((Below.refl _ _).alloc (Nat.le_refl _) (.cells cc 33))).setR (j := 3) (.slice (some ⟨wc.heap.size, 0, none⟩) N N)
    clear h2
    go_upto_region 4 with fail
    clear hmk c0 c3 f3
    obtain ⟨W3, hW3⟩ : ∃ W3, W3 = (wc.alloc (.cells cc 33)).setCell ⟨R, 3, none⟩ (.slice (some ⟨wc.heap.size, 0, none⟩) N N) := ⟨_, rfl⟩
    have hrc3 := hrc.set3 (.slice (some ⟨wc.heap.size, 0, none⟩) N N)
    have hown3 := hown.setR (j := 3) hR (.slice (some ⟨wc.heap.size, 0, none⟩) N N)
    rw [← hW3] at hrc3 hown3 hfr2
    rw [← hW3]
    obtain ⟨G, hG⟩ : ∃ G, wc.heap.size = G := ⟨_, rfl⟩
    rw [hG] at hrc3
    clear hrc hown hfr hW3 hb1 hG
    have hNw : wd ≤ N := by rw [HN.out]; exact Nat.le_mul_of_pos_left _ (by omega)
    obtain ⟨a1, m1, rfl⟩ := hown3.form
    obtain ⟨ln, hln⟩ : ∃ ln, (cs.tail.map (sv wd)).length = ln := ⟨_, rfl⟩
    cases cs with
    | nil =>
      have c1 : W3.cell? ⟨R, 1, none⟩ = some (.slice none 0 0) := hrc3.c1
      have c3 := hrc3.c3
      have f1 := hrc3.fz 1
      have hrc5 := hrc3.set1 (.slice (some ⟨G, 0, none⟩) N N)
      have hown5 := hown3.setR (j := 1) hR (.slice (some ⟨G, 0, none⟩) N N)
      have hfr5 := hfr2.setR (j := 1) (.slice (some ⟨G, 0, none⟩) N N)
      have d0 := hrc5.c0
      have d3 := hrc5.c3
      have HF : Hid (Rs (W3.setCell ⟨R, 1, none⟩ (.slice (some ⟨G, 0, none⟩) N N)) R base wd k [(G, s)] (.slice a1 (List.map (sv wd) (List.tail [])).length m1) (.slice (some ⟨G, 0, none⟩) N N) ∧ Fr R w (W3.setCell ⟨R, 1, none⟩ (.slice (some ⟨G, 0, none⟩) N N)) (.slice a1 (List.map (sv wd) (List.tail [])).length m1) (.slice a1 (List.map (sv wd) (List.tail [])).length m1)) := by
        refine ⟨⟨?_, hown5, .inr ⟨[], G, s, 0, ⟨G, 0, none⟩, rfl, HK.out, by omega, by simp [HN.out], fun _ => by simp⟩, fun x hx => by simp at hx; subst hx; exact hs1⟩, hfr5⟩
        have e : hd wd [(G, s)] = .slice (some ⟨G, 0, none⟩) N N := by simp [hd, sv, HN.out]
        rw [e]; exact hrc5
      clear hrc3 hrc5 hown3 hown5 hfr2 hfr5 hln
      have hnil := fun w => eqnil24 w none 0 0
      go_wp2
      go_quiet (fail)
      go_wp2
      go_ret
      exact ⟨[], G, s, 0, [(G, s)], _, _, by rw [Nat.zero_mul]; rfl, rfl, HK.out, by omega, .inr ⟨(G, s), rfl, HK.out⟩, HF.out.1.below (same_drawn _ _), HF.out.2.later (same_drawn _ _)⟩
    | cons c r =>
      simp only [List.tail_cons, List.length_map] at hown3 hrc3 hfr2
      have c1 : W3.cell? ⟨R, 1, none⟩ = some (.slice (some ⟨c.1, 0, none⟩) (c.2 * wd) (c.2 * wd)) := hrc3.c1
      have hnil := fun w => eqnil24 w (some ⟨c.1, 0, none⟩) (c.2 * wd) (c.2 * wd)
      rw [← HK.out] at hpos
      simp only [List.tail_cons, List.length_map]
      go_upto_region 6 with fail
      clear c1 hnil
      have c2 := hrc3.c2
      have c3 := hrc3.c3
      obtain ⟨v4, w4, hap, ho4, hs4⟩ := append_s W3.drew base _ _ (some ⟨G, 0, none⟩) N N (hown3.below ⟨rfl, rfl, rfl, Nat.le_refl _, fun _ _ => rfl⟩) (by simp at hpos ⊢; omega) hrc3.size
      obtain ⟨a4, m4, e4⟩ := ho4.form
      have hb4 : Below base W3 w4 := undrewB (hs4.below hrc3.size (fun k hk => (World.ownsRow.lt hown3 k hk).1))
      have hrc4 := hrc3.below (w' := w4) hb4
      have e2 := hrc4.c2
      have f2 := hrc4.fz 2
      have c2a : (W3.alloc (.cells #[.slice (some ⟨G, 0, none⟩) N N] 24)).cell? ⟨R, 2, none⟩ = some (.slice a1 r.length m1) := bc ((Below.refl _ _).alloc (Nat.le_refl _) _) c2
      subst e4
      simp only [List.length_map, List.length_append, List.length_cons, List.length_nil] at hap hs4 ho4
      go_cut [2] (fun v wx => v = .slice none 0 0 ∧ wx = w4.setCell ⟨R, 2, none⟩ (.slice a4 (r.length + (0 + 1)) m4))
      case first =>
        clear hrc3 hrc4 hown3 hfr2 hs4 ho4
        go_region_law (refine step_append_run rfl rfl rfl hap rfl rfl ?_)
        all_goals (go_wp2; go_meet; exact ⟨rfl, rfl⟩)
      case rest =>
        obtain ⟨rfl, rfl⟩ := hcut
        have hrc6 := hrc4.set2 (.slice a4 (r.length + (0 + 1)) m4)
        have d0 := hrc6.c0
        have d3 := hrc6.c3
        have HF : Hid (Rs (w4.setCell ⟨R, 2, none⟩ (.slice a4 (r.length + (0 + 1)) m4)) R base wd k ((c :: r) ++ [(G, s)]) (.slice a4 (r.length + (0 + 1)) m4) (.slice (some ⟨G, 0, none⟩) N N) ∧ Fr R w (w4.setCell ⟨R, 2, none⟩ (.slice a4 (r.length + (0 + 1)) m4)) (.slice a1 r.length m1) (.slice a4 (r.length + (0 + 1)) m4)) := by
          refine ⟨⟨hrc6, ?_, .inr ⟨c :: r, G, s, 0, ⟨G, 0, none⟩, rfl, HK.out, by omega, by simp [HN.out], fun _ => by simp⟩, ?_⟩, ((hfr2.later (w'' := W3.drew) ⟨rfl, rfl, rfl, Nat.le_refl _, fun _ _ => rfl⟩).step hs4).setR _⟩
          · have e : ((c :: r) ++ [(G, s)]).tail.map (sv wd) = List.map (sv wd) r ++ [.slice (some ⟨G, 0, none⟩) N N] := by simp [sv, HN.out]
            rw [e]; exact ho4.setR hR _
          · intro x hx
            rcases List.mem_append.1 hx with h | h
            · exact hall x h
            · simp at h; subst h; exact hs1
        clear hrc6 hrc4 hrc3 hown3 hfr2 hs4 ho4 hb4 e2 f2 c2a c2 c3 hap
        go_wp2
        go_quiet (fail)
        go_wp2
        go_ret
        exact ⟨c :: r, G, s, 0, (c :: r) ++ [(G, s)], _, _, by rw [Nat.zero_mul]; rfl, rfl, HK.out, by omega, .inr ⟨(G, s), rfl, HK.out⟩, HF.out.1.below (same_drawn _ _), by rw [List.tail_cons, List.length_map]; exact HF.out.2.later (same_drawn _ _)⟩

/-- next, the width not 0. -/
theorem next_any (w : World) (R base wd k : Nat) (cs : List (Nat × Nat)) (mv rv : Value) (hwd : 0 < wd ∧ wd < 8) (hk1 : k ≤ 1024) (h : Rs w R base wd k cs mv rv) :
    Calls Yba.prog 5 #[.pointer (some ⟨R, 0, none⟩)] w (NPost R base wd k cs mv w) := by
  rcases h.free with ⟨rfl, rfl, rfl⟩ | ⟨pre, g, s, o, ad, rfl, hk, ho, rfl, had⟩
  · exact next_make w R base wd 0 [] none mv hwd hk1 rfl h
  · by_cases e : o < s
    · rw [had e] at h
      exact next_room w R base wd k pre g s o mv hwd e hk h
    · obtain rfl : o = s := by omega
      rw [Nat.sub_self, Nat.zero_mul] at h
      exact next_make w R base wd k _ _ mv hwd hk1 (by rw [tot_append]; simp [tot]; omega) h
end Go.Proofs.Ybulkbtgg
