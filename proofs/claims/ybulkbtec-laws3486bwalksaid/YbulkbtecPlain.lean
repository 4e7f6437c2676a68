/- Plain notions: set bits, ranks, the next set bit; the ten names. No Go in sight. -/
namespace Go.Proofs.Ybulkbtec.Plain

/-- How many of the first K bits are set. -/
def rank (b : Nat → Bool) : Nat → Nat
  | 0 => 0
  | k + 1 => rank b k + if b k then 1 else 0
theorem rank_yes {b : Nat → Bool} {k : Nat} (h : b k = true) : rank b (k + 1) = rank b k + 1 := by simp [rank, h]
theorem rank_no {b : Nat → Bool} {k : Nat} (h : b k = false) : rank b (k + 1) = rank b k := by simp [rank, h]
theorem rank_le (b : Nat → Bool) : ∀ k, rank b k ≤ k
  | 0 => by simp [rank]
  | k + 1 => by have := rank_le b k; simp only [rank]; split <;> omega
theorem rank_mono (b : Nat → Bool) {k m : Nat} (h : k ≤ m) : rank b k ≤ rank b m := by
  induction m with
  | zero => simp [show k = 0 by omega]
  | succ m ih =>
    by_cases e : k = m + 1
    · rw [e]; exact Nat.le_refl _
    · have := ih (by omega); simp only [rank]; omega
theorem rank_lt {b : Nat → Bool} {k m : Nat} (h : k < m) (hb : b k = true) : rank b k < rank b m := by
  have := rank_mono b (show k + 1 ≤ m by omega); rw [rank_yes hb] at this; omega
theorem rank_inj {b : Nat → Bool} {k m : Nat} (hk : b k = true) (hm : b m = true) (h : rank b k = rank b m) : k = m := by
  rcases Nat.lt_trichotomy k m with h1 | h1 | h1
  · have := rank_lt h1 hk; omega
  · exact h1
  · have := rank_lt h1 hm; omega
theorem rank_congr {b c : Nat → Bool} {n : Nat} (h : ∀ k, k < n → b k = c k) : ∀ k, k ≤ n → rank b k = rank c k
  | 0 => fun _ => rfl
  | k + 1 => fun hk => by simp only [rank]; rw [rank_congr h k (by omega), h k (by omega)]

/-- The next set bit from K on; n where there is none. -/
def nxtF (b : Nat → Bool) : Nat → Nat → Nat
  | 0, K => K
  | f + 1, K => if b K then K else nxtF b f (K + 1)
theorem nxtF_spec (b : Nat → Bool) : ∀ f K, K ≤ nxtF b f K ∧ nxtF b f K ≤ K + f ∧ (∀ k, K ≤ k → k < nxtF b f K → b k = false) ∧ (nxtF b f K < K + f → b (nxtF b f K) = true)
  | 0, K => ⟨Nat.le_refl _, Nat.le_refl _, fun k h1 h2 => by simp only [nxtF] at h2; omega, fun h => by simp only [nxtF] at h; omega⟩
  | f + 1, K => by
    cases h : b K with
    | true =>
      have e : nxtF b (f + 1) K = K := by simp [nxtF, h]
      rw [e]
      exact ⟨Nat.le_refl _, by omega, fun k h1 h2 => by omega, fun _ => h⟩
    | false =>
      have e : nxtF b (f + 1) K = nxtF b f (K + 1) := by simp [nxtF, h]
      rw [e]
      obtain ⟨h1, h2, h3, h4⟩ := nxtF_spec b f (K + 1)
      refine ⟨by omega, by omega, fun k k1 k2 => ?_, fun hl => h4 (by omega)⟩
      by_cases ek : k = K
      · rw [ek]; exact h
      · exact h3 k (by omega) k2
def nxt (b : Nat → Bool) (K : Nat) : Nat := nxtF b (10 - K) K
theorem nxt_ge (b : Nat → Bool) (K : Nat) : K ≤ nxt b K := (nxtF_spec b _ K).1
theorem nxt_le {b : Nat → Bool} {K : Nat} (h : K ≤ 10) : nxt b K ≤ 10 := by have := (nxtF_spec b (10 - K) K).2.1; unfold nxt; omega
theorem nxt_no {b : Nat → Bool} {K k : Nat} (h1 : K ≤ k) (h2 : k < nxt b K) : b k = false := (nxtF_spec b _ K).2.2.1 k h1 h2
theorem nxt_yes {b : Nat → Bool} {K : Nat} (h : nxt b K < 10) : b (nxt b K) = true := by
  refine (nxtF_spec b (10 - K) K).2.2.2 ?_
  have := nxt_ge b K
  unfold nxt at h this
  omega
/-- No bit is set from K on up to m: the rank stands. -/
theorem rank_same {b : Nat → Bool} {K : Nat} : ∀ m, K ≤ m → (∀ k, K ≤ k → k < m → b k = false) → rank b m = rank b K
  | 0 => fun h _ => by rw [show K = 0 by omega]
  | m + 1 => fun h hb => by
    by_cases e : K = m + 1
    · rw [e]
    · rw [rank_no (hb m (by omega) (by omega)), rank_same m (by omega) (fun k h1 h2 => hb k h1 (by omega))]
theorem rank_nxt (b : Nat → Bool) (K : Nat) : rank b (nxt b K) = rank b K := rank_same _ (nxt_ge b K) (fun _ h1 h2 => nxt_no h1 h2)
theorem rank_end {b : Nat → Bool} {K : Nat} (hK : K ≤ 10) : rank b K = rank b 10 ↔ nxt b K = 10 := by
  have h1 := nxt_le (b := b) hK
  constructor
  · intro h
    rcases Nat.lt_or_ge (nxt b K) 10 with hl | hl
    · have := rank_lt hl (nxt_yes hl); rw [rank_nxt] at this; omega
    · omega
  · intro h; rw [← rank_nxt b K, h]
theorem rank_more {b : Nat → Bool} {K : Nat} (hK : K ≤ 10) : rank b K < rank b 10 ↔ nxt b K < 10 := by
  have h1 := rank_end (b := b) hK
  have h2 := nxt_le (b := b) hK
  have h3 := rank_mono b hK
  constructor
  · intro h; rcases Nat.lt_or_ge (nxt b K) 10 with hl | hl
    · exact hl
    · have := h1.2 (by omega); omega
  · intro h
    rcases Nat.lt_or_ge (rank b K) (rank b 10) with hl | hl
    · exact hl
    · have := h1.1 (by omega); omega

/-- The ten names. -/
def nm : Nat → ByteArray
  | 0 => ⟨#[97]⟩
  | 1 => ⟨#[97, 98]⟩
  | 2 => ⟨#[97, 98, 99]⟩
  | 3 => ⟨#[98]⟩
  | 4 => ⟨#[98, 97]⟩
  | 5 => ⟨#[99]⟩
  | 6 => ⟨#[99, 97]⟩
  | 7 => ⟨#[100]⟩
  | 8 => ⟨#[101]⟩
  | _ => ⟨#[122, 122]⟩
theorem nm_size (k : Nat) : 1 ≤ (nm k).size ∧ (nm k).size ≤ 3 := by
  unfold nm
  split <;> exact ⟨by decide, by decide⟩

end Go.Proofs.Ybulkbtec.Plain
