import Derived.Test.YbulkbtggNext
namespace Go.Proofs.Ybulkbtgg
open Go.RowKit Plain

def APost (R base wd k : Nat) (cs : List (Nat × Nat)) (mv : Value) (w : World) (e : Ending) (w' : World) : Prop :=
  e = .returned (.tuple #[]) ∧ (∃ rv, Rs w' R base wd (k + 1) cs mv rv) ∧ Fr R w w' mv mv

set_option maxHeartbeats 1000000 in
/-- add, where next has just made room. -/
theorem add_any (w : World) (R base wd k : Nat) (pre : List (Nat × Nat)) (g s o : Nat) (mv rv : Value) (hwd : 0 < wd ∧ wd < 8) (hk1 : k ≤ 1024) (ho : o < s) (hk : k = tot pre + o) (h : Rs w R base wd k (pre ++ [(g, s)]) mv rv) :
    Calls Yba.prog 6 #[.pointer (some ⟨R, 0, none⟩)] w (APost R base wd k (pre ++ [(g, s)]) mv w) := by
  obtain rfl : rv = .slice (some ⟨g, o * (wd * 4), none⟩) ((s - o) * wd) ((s - o) * wd) := by
    rcases h.free with ⟨h1, _⟩ | ⟨pre', g', s', o', ad, h1, h2, _, h4, h5⟩
    · simp at h1
    · obtain ⟨e1, e2⟩ := List.append_inj' h1 rfl
      simp at e2
      subst e1
      obtain ⟨rfl, rfl⟩ := e2
      obtain rfl : o = o' := by omega
      rw [h4, h5 ho]
  obtain ⟨N, hN⟩ : ∃ N, (s - o) * wd = N := ⟨_, rfl⟩
  have hNw : wd ≤ N := by rw [← hN]; exact Nat.le_mul_of_pos_left _ (by omega)
  obtain ⟨q, hq⟩ : ∃ q, o * (wd * 4) = q := ⟨_, rfl⟩
  have hN2 : (s - (o + 1)) * wd = N - wd := by rw [← hN, show s - (o + 1) = s - o - 1 by omega, Nat.sub_mul, Nat.one_mul]
  have hrc := h.rc
  rw [hN, hq] at hrc
  have c0 := hrc.c0
  have c3 := hrc.c3
  have f3 := hrc.fz 3
  have HH : Hid (Rs w R base wd k (pre ++ [(g, s)]) mv (.slice (some ⟨g, o * (wd * 4), none⟩) ((s - o) * wd) ((s - o) * wd))) := h
  have fin : ∀ ad, (o + 1 < s → ad = ⟨g, (o + 1) * (wd * 4), none⟩) → Rs ((w.setCell ⟨R, 3, none⟩ (.slice (some ad) (N - wd) (N - wd))).setCell ⟨R, 4, none⟩ (.int .i64 ((k : Int) + 1))) R base wd (k + 1) (pre ++ [(g, s)]) mv (.slice (some ad) (N - wd) (N - wd)) ∧ Fr R w ((w.setCell ⟨R, 3, none⟩ (.slice (some ad) (N - wd) (N - wd))).setCell ⟨R, 4, none⟩ (.int .i64 ((k : Int) + 1))) mv mv := fun ad had =>
    ⟨⟨(hrc.set3 _).set4 _, (h.own.setR hrc.lt _).setR hrc.lt _, .inr ⟨pre, g, s, o + 1, ad, rfl, by omega, by omega, by rw [hN2], had⟩, h.pos⟩, ((Fr.of_below mv (Below.refl _ _)).setR _).setR _⟩
  by_cases e : N = wd
  · have hs1 : ¬ o + 1 < s := fun hlt => by
      have : 2 * wd ≤ (s - o) * wd := Nat.mul_le_mul_right _ (by omega)
      omega
    have hF := fin ⟨g, q, none⟩ (fun h => absurd h hs1)
    have hz : N - wd = 0 := by omega
    rw [hz] at hF
    have hrc3 := hrc.set3 (.slice (some ⟨g, q, none⟩) 0 0)
    have d4 := hrc3.c4
    have e4 := hrc3.fz 4
    have HF : Hid (Rs ((w.setCell ⟨R, 3, none⟩ (.slice (some ⟨g, q, none⟩) 0 0)).setCell ⟨R, 4, none⟩ (.int .i64 ((k : Int) + 1))) R base wd (k + 1) (pre ++ [(g, s)]) mv (.slice (some ⟨g, q, none⟩) 0 0) ∧ Fr R w ((w.setCell ⟨R, 3, none⟩ (.slice (some ⟨g, q, none⟩) 0 0)).setCell ⟨R, 4, none⟩ (.int .i64 ((k : Int) + 1))) mv mv) := hF
    subst e
    clear fin hF hrc hrc3 h hN hN2 hq hs1 hz hk
    go_enter Yba.func6, Yba.ntmps6
    go_wp2_with fail
    go_big_region
    go_wp2
    go_end0
    exact ⟨rfl, ⟨_, HF.out.1.below ⟨rfl, rfl, rfl, Nat.le_refl _, fun _ _ => rfl⟩⟩, HF.out.2.later ⟨rfl, rfl, rfl, Nat.le_refl _, fun _ _ => rfl⟩⟩
  · have hF := fin ⟨g, q + wd * 4, none⟩ (fun _ => by rw [← hq, Nat.add_mul, Nat.one_mul])
    have hrc3 := hrc.set3 (.slice (some ⟨g, q + wd * 4, none⟩) (N - wd) (N - wd))
    have d4 := hrc3.c4
    have e4 := hrc3.fz 4
    have HF : Hid (Rs ((w.setCell ⟨R, 3, none⟩ (.slice (some ⟨g, q + wd * 4, none⟩) (N - wd) (N - wd))).setCell ⟨R, 4, none⟩ (.int .i64 ((k : Int) + 1))) R base wd (k + 1) (pre ++ [(g, s)]) mv (.slice (some ⟨g, q + wd * 4, none⟩) (N - wd) (N - wd)) ∧ Fr R w ((w.setCell ⟨R, 3, none⟩ (.slice (some ⟨g, q + wd * 4, none⟩) (N - wd) (N - wd))).setCell ⟨R, 4, none⟩ (.int .i64 ((k : Int) + 1))) mv mv) := hF
    clear fin hF hrc hrc3 h hN hN2 hq hk
    go_enter Yba.func6, Yba.ntmps6
    go_wp2_with fail
    go_big_region
    go_wp2
    go_end0
    exact ⟨rfl, ⟨_, HF.out.1.below ⟨rfl, rfl, rfl, Nat.le_refl _, fun _ _ => rfl⟩⟩, HF.out.2.later ⟨rfl, rfl, rfl, Nat.le_refl _, fun _ _ => rfl⟩⟩
end Go.Proofs.Ybulkbtgg
