/- The plain law of a fraction's nine digits: no Go in sight. -/
namespace Go.Proofs.Ybulkbtda.Frac

/-- Digit s (0 the first) of the nine-digit fraction V. -/
def dg (V s : Nat) : Nat := V / 10 ^ (8 - s) % 10

theorem pow_pos10 (n : Nat) : 0 < 10 ^ n := Nat.pow_pos (by omega)

/-- Cutting q trailing zeros. -/
theorem cut {V x d q : Nat} (hV0 : 0 < V) (hV : V < 10 ^ 9) (hd : d ≤ 9) (hx : x * 10 ^ (9 - d) = V) (h0 : x % 10 ^ q = 0) : q < d ∧ x / 10 ^ q * 10 ^ (9 - (d - q)) = V := by
  have hx' : x / 10 ^ q * 10 ^ q = x := Nat.div_mul_cancel (Nat.dvd_of_mod_eq_zero h0)
  have hx0 : 0 < x / 10 ^ q := by
    rcases Nat.eq_zero_or_pos (x / 10 ^ q) with h | h
    · rw [h, Nat.zero_mul] at hx'; subst hx'; omega
    · exact h
  have hq : q < d := by
    rcases Nat.lt_or_ge q d with h | h
    · exact h
    · exfalso
      have h1 : 10 ^ 9 ≤ 10 ^ q * 10 ^ (9 - d) := by
        rw [← Nat.pow_add]; exact Nat.pow_le_pow_right (by omega) (by omega)
      have h2 : 10 ^ q ≤ x := by rw [← hx']; exact Nat.le_mul_of_pos_left _ hx0
      have h3 : 10 ^ q * 10 ^ (9 - d) ≤ x * 10 ^ (9 - d) := Nat.mul_le_mul_right _ h2
      omega
  refine ⟨hq, ?_⟩
  have e : 9 - (d - q) = q + (9 - d) := by omega
  rw [e, Nat.pow_add, ← Nat.mul_assoc, hx', hx]

theorem cut_more {x q : Nat} (h : x % 10 ^ (q + q) ≠ 0) (h0 : x % 10 ^ q = 0) : x / 10 ^ q % 10 ^ q ≠ 0 := by
  intro h1
  have a := Nat.div_mul_cancel (Nat.dvd_of_mod_eq_zero h0)
  have b := Nat.div_mul_cancel (Nat.dvd_of_mod_eq_zero h1)
  apply h
  rw [← a, ← b, Nat.pow_add, Nat.mul_assoc]
  exact Nat.mul_mod_left _ _

/-- The digits of V = x * 10 ^ (9 - d). -/
theorem dg_hi {V x d s : Nat} (hd : d ≤ 9) (hx : x * 10 ^ (9 - d) = V) (hs : s < d) : dg V s = x / 10 ^ (d - 1 - s) % 10 := by
  unfold dg
  have e : 8 - s = (9 - d) + (d - 1 - s) := by omega
  rw [e, Nat.pow_add, ← hx, ← Nat.div_div_eq_div_mul, Nat.mul_div_cancel _ (pow_pos10 _)]

theorem dg_lo {V x d s : Nat} (hx : x * 10 ^ (9 - d) = V) (hs : d ≤ s) (h9 : s < 9) : dg V s = 0 := by
  unfold dg
  have e : 9 - d = (9 - d - (8 - s) - 1) + 1 + (8 - s) := by omega
  rw [← hx, e, Nat.pow_add, ← Nat.mul_assoc, Nat.mul_div_cancel _ (pow_pos10 _), Nat.pow_succ, ← Nat.mul_assoc]
  exact Nat.mul_mod_left _ _

theorem dg_last {V x d : Nat} (hd : d ≤ 9) (h1 : 1 ≤ d) (hx : x * 10 ^ (9 - d) = V) (h0 : x % 10 ≠ 0) : dg V (d - 1) ≠ 0 := by
  rw [dg_hi hd hx (by omega)]
  have e : d - 1 - (d - 1) = 0 := by omega
  rw [e]; simpa using h0

/-- The number of digits is told by the digits. -/
theorem dg_unique {V x d k : Nat} (hd : d ≤ 9) (h1 : 1 ≤ d) (hx : x * 10 ^ (9 - d) = V) (h0 : x % 10 ≠ 0) (hk : k ≤ 9) (hk1 : 1 ≤ k) (hl : dg V (k - 1) ≠ 0) (hz : ∀ s, k ≤ s → s < 9 → dg V s = 0) : k = d := by
  rcases Nat.lt_trichotomy k d with h | h | h
  · exact absurd (hz (d - 1) (by omega) (by omega)) (dg_last hd h1 hx h0)
  · exact h
  · exact absurd (dg_lo hx (by omega) (by omega)) hl

/-- Not all nine digits are nought. -/
theorem dg_some {V : Nat} (hV0 : 0 < V) (hV : V < 10 ^ 9) : ¬ ∀ s, s < 9 → dg V s = 0 := by
  intro h
  have h0 := h 0 (by omega)
  have h1 := h 1 (by omega)
  have h2 := h 2 (by omega)
  have h3 := h 3 (by omega)
  have h4 := h 4 (by omega)
  have h5 := h 5 (by omega)
  have h6 := h 6 (by omega)
  have h7 := h 7 (by omega)
  have h8 := h 8 (by omega)
  simp [dg] at h0 h1 h2 h3 h4 h5 h6 h7 h8
  omega

theorem div_step (V t : Nat) : V / 10 ^ t / 10 = V / 10 ^ (t + 1) := by rw [Nat.div_div_eq_div_mul, ← Nat.pow_succ]

end Go.Proofs.Ybulkbtda.Frac
