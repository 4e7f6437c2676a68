import Derived.Test.YbulkbtecLog
namespace Go.Proofs.Ybulkbtec
open Go.RowKit Plain

/-- The three captured variables and the log. -/
structure Lst (w : World) (base Bc Bl Bs : Nat) (stop : Int) (L : List (ByteArray × Int × Int)) (v : Value) : Prop where
  c : w.cell? ⟨Bc, 0, none⟩ = some (.int .i64 (L.length : Int))
  fc : w.frozen? ⟨Bc, 0, none⟩ = false
  l : w.cell? ⟨Bl, 0, none⟩ = some v
  fl : w.frozen? ⟨Bl, 0, none⟩ = false
  s : w.cell? ⟨Bs, 0, none⟩ = some (.int .i64 stop)
  own : OwnE w base v L
  size : base ≤ w.heap.size
/-- Below 'base' nothing but Bc and Bl has turned. -/
structure Kp (base Bc Bl : Nat) (w w' : World) : Prop where
  os : w'.os = w.os
  tape : w'.tape = w.tape
  output : w'.output = w.output
  size : w.heap.size ≤ w'.heap.size
  block : ∀ k, k < base → k ≠ Bc → k ≠ Bl → w'.heap[k]? = w.heap[k]?
theorem Kp.refl (base Bc Bl : Nat) (w : World) : Kp base Bc Bl w w := ⟨rfl, rfl, rfl, Nat.le_refl _, fun _ _ _ _ => rfl⟩
theorem Kp.trans {base Bc Bl : Nat} {w w1 w2 : World} (h : Kp base Bc Bl w w1) (k : Kp base Bc Bl w1 w2) : Kp base Bc Bl w w2 :=
  ⟨k.os.trans h.os, k.tape.trans h.tape, k.output.trans h.output, Nat.le_trans h.size k.size, fun i h1 h2 h3 => (k.block i h1 h2 h3).trans (h.block i h1 h2 h3)⟩
theorem Kp.of_below {base Bc Bl : Nat} {w w' : World} (h : Below base w w') : Kp base Bc Bl w w' := ⟨h.os, h.tape, h.output, h.size, fun k hk _ _ => h.block k hk⟩
theorem Kp.setC {base Bc Bl : Nat} {w w' : World} (h : Kp base Bc Bl w w') (v : Value) : Kp base Bc Bl w (w'.setCell ⟨Bc, 0, none⟩ v) :=
  h.trans ⟨rfl, rfl, rfl, by simp, fun k _ h2 _ => Below.heap_setCell _ _ _ _ h2⟩
theorem Kp.setL {base Bc Bl : Nat} {w w' : World} (h : Kp base Bc Bl w w') (v : Value) : Kp base Bc Bl w (w'.setCell ⟨Bl, 0, none⟩ v) :=
  h.trans ⟨rfl, rfl, rfl, by simp, fun k _ _ h3 => Below.heap_setCell _ _ _ _ h3⟩

def YPost (base Bc Bl Bs : Nat) (stop : Int) (L : List (ByteArray × Int × Int)) (w : World) (r : Bool) (e : Ending) (w' : World) : Prop :=
  e = .returned (.bool r) ∧ (∃ v', Lst w' base Bc Bl Bs stop L v') ∧ Kp base Bc Bl w w'

set_option maxHeartbeats 1000000 in
theorem yield_any (base Bc Bl Bs : Nat) (stop : Int) (L : List (ByteArray × Int × Int)) (v : Value) (h : ByteArray) (x y : Int) (w : World) (hcl : Bc < base) (hll : Bl < base) (hsl : Bs < base) (n1 : Bc ≠ Bl) (n2 : Bc ≠ Bs) (n3 : Bl ≠ Bs) (hlen : L.length ≤ 15) (hst : Lst w base Bc Bl Bs stop L v) :
    Calls Yba.prog 8 #[.string h, .agg #[.int .u64 x, .int .u64 y], .pointer (some ⟨Bc, 0, none⟩), .pointer (some ⟨Bl, 0, none⟩), .pointer (some ⟨Bs, 0, none⟩)] w
      (YPost base Bc Bl Bs stop (L ++ [(h, x, y)]) w (!(decide (0 < stop) && ((L.length : Int) + 1 == stop)))) := by
  obtain ⟨c1, fc, l1, fl, s1, hown, hsz⟩ := hst
  have hBc : Bc < w.heap.size := by omega
  have hBl : Bl < w.heap.size := by omega
  have hBs : Bs < w.heap.size := by omega
  obtain ⟨W2, hW2⟩ : ∃ W2, W2 = (w.setCell ⟨Bc, 0, none⟩ (.int .i64 ((L.length : Int) + 1))).alloc (.cells #[.int .u64 x, .int .u64 y] 34) := ⟨_, rfl⟩
  have ho2 : OwnE W2 base v L := by rw [hW2]; exact World.ownsRow.alloc (ownsRow_setCell_below hown (a := ⟨Bc, 0, none⟩) hcl _) _
  have hk2 : Kp base Bc Bl w W2 := by rw [hW2]; exact (Kp.setC (Kp.refl base Bc Bl w) _).trans (Kp.of_below ((Below.refl _ _).alloc (by simp; omega) _))
  have kc2 : W2.cell? ⟨Bc, 0, none⟩ = some (.int .i64 ((L.length : Int) + 1)) := by
    rw [hW2, World.cell?_alloc_lt _ _ _ (by simpa using hBc)]
    exact World.cell?_setCell_same _ _ _ c1
  have kl2 : W2.cell? ⟨Bl, 0, none⟩ = some v := by
    rw [hW2, World.cell?_alloc_lt _ _ _ (by simpa using hBl)]
    rw [World.cell?_of_block (w := w) (Below.heap_setCell _ _ _ _ (by exact fun e => n1 e.symm))]; exact l1
  have ks2 : W2.cell? ⟨Bs, 0, none⟩ = some (.int .i64 stop) := by
    rw [hW2, World.cell?_alloc_lt _ _ _ (by simpa using hBs)]
    rw [World.cell?_of_block (w := w) (Below.heap_setCell _ _ _ _ (by exact fun e => n2 e.symm))]; exact s1
  have hfz2 : ∀ b, b < w.heap.size → W2.frozen? ⟨b, 0, none⟩ = w.frozen? ⟨b, 0, none⟩ := fun b hb => by
    rw [hW2, World.frozen?_alloc_old _ _ _ (by simp; omega), World.frozen?_setCell]
  obtain ⟨v', w4, hap, ho4, hs4⟩ := append_e W2 base v L h x y ho2 (by omega) (Nat.le_trans hsz hk2.size)
  obtain ⟨a', c', e'⟩ := ho4.form
  obtain ⟨n', hn'⟩ : ∃ n', (L ++ [(h, x, y)]).length = n' := ⟨_, rfl⟩
  rw [hn'] at e'
  clear hn'
  have hb4 : Below base W2 w4 := hs4.below (Nat.le_trans hsz hk2.size) (fun k hk => (World.ownsRow.lt ho2 k hk).1)
  have kc4 : w4.cell? ⟨Bc, 0, none⟩ = some (.int .i64 ((L.length : Int) + 1)) := (hb4.cell (p := ⟨Bc, 0, none⟩) hcl).trans kc2
  have kl4 : w4.cell? ⟨Bl, 0, none⟩ = some v := (hb4.cell (p := ⟨Bl, 0, none⟩) hll).trans kl2
  have ks4 : w4.cell? ⟨Bs, 0, none⟩ = some (.int .i64 stop) := (hb4.cell (p := ⟨Bs, 0, none⟩) hsl).trans ks2
  have fc4 : w4.frozen? ⟨Bc, 0, none⟩ = false := (hb4.frozen (p := ⟨Bc, 0, none⟩) hcl).trans ((hfz2 Bc hBc).trans fc)
  have fl4 : w4.frozen? ⟨Bl, 0, none⟩ = false := (hb4.frozen (p := ⟨Bl, 0, none⟩) hll).trans ((hfz2 Bl hBl).trans fl)
  have hk4 : Kp base Bc Bl w w4 := hk2.trans (Kp.of_below hb4)
  have hsz4 : base ≤ w4.heap.size := Nat.le_trans hsz hk4.size
  -- the end's world: the log stored
  have hend : Lst (w4.setCell ⟨Bl, 0, none⟩ v') base Bc Bl Bs stop (L ++ [(h, x, y)]) v' :=
    ⟨by rw [World.cell?_of_block (w := w4) (Below.heap_setCell _ _ _ _ n1), List.length_append]; simpa using kc4,
     by rw [World.frozen?_setCell]; exact fc4, World.cell?_setCell_same _ _ _ kl4, by rw [World.frozen?_setCell]; exact fl4,
     by rw [World.cell?_of_block (w := w4) (Below.heap_setCell _ _ _ _ (fun e => n3 e.symm))]; exact ks4,
     ownsRow_setCell_below ho4 (a := ⟨Bl, 0, none⟩) hll _, by simpa using hsz4⟩
  have hkend : Kp base Bc Bl w (w4.setCell ⟨Bl, 0, none⟩ v') := hk4.setL _
  subst e'
  obtain ⟨r, hr⟩ : ∃ r, r = (!(decide (0 < stop) && ((L.length : Int) + 1 == stop))) := ⟨_, rfl⟩
  rw [← hr]
  have HR : Hid (r = (!(decide (0 < stop) && ((L.length : Int) + 1 == stop)))) := hr
  have hsize2 : W2.heap.size = w.heap.size + 1 := by rw [hW2]; simp
  rw [hsize2] at hap
  rw [hW2] at kc2 kl2 ks2 hap
  clear hr hfz2 hW2 ho2 hk2 hb4 hs4 ho4
  have kce : (w4.setCell ⟨Bl, 0, none⟩ (.slice a' n' c')).cell? ⟨Bc, 0, none⟩ = some (.int .i64 ((L.length : Int) + 1)) := by
    rw [World.cell?_of_block (w := w4) (Below.heap_setCell _ _ _ _ n1)]; exact kc4
  have kse := hend.s
  have hlen' : (L.length : Int) + 1 ≤ 20 := by omega
  by_cases t1 : 0 < stop
  · have t1' : decide (0 < stop) = true := by simpa using t1
    by_cases t2 : (L.length : Int) + 1 = stop
    · have t2' : ((L.length : Int) + 1 == stop) = true := by simpa using t2
      have HF : Hid (r = false) := by show _ = _; rw [HR.out, t1', t2']; rfl
      clear t2 HR
      go_enter Yba.func8, Yba.ntmps8
      go_wp2_with (at_builtin; refine wpList_append_run rfl rfl rfl hap rfl rfl ?_)
      go_ret
      exact ⟨by rw [HF.out]; rfl, ⟨_, hend⟩, hkend⟩
    · have t2' : ((L.length : Int) + 1 == stop) = false := by simpa using t2
      have HF : Hid (r = true) := by show _ = _; rw [HR.out, t1', t2']; rfl
      clear t2 HR
      go_enter Yba.func8, Yba.ntmps8
      go_wp2_with (at_builtin; refine wpList_append_run rfl rfl rfl hap rfl rfl ?_)
      go_ret
      exact ⟨by rw [HF.out]; rfl, ⟨_, hend⟩, hkend⟩
  · have t1' : decide (0 < stop) = false := by simpa using t1
    have HF : Hid (r = true) := by show _ = _; rw [HR.out, t1']; rfl
    clear HR
    go_enter Yba.func8, Yba.ntmps8
    go_wp2_with (at_builtin; refine wpList_append_run rfl rfl rfl hap rfl rfl ?_)
    go_ret
    exact ⟨by rw [HF.out]; rfl, ⟨_, hend⟩, hkend⟩
end Go.Proofs.Ybulkbtec
