import Derived.Test.YbulkbtecPlain
namespace Go.Proofs.Ybulkbtec.Plain

/-- The text of the names of the set bits below K; the bounds; the counts. -/
def tx (b : Nat → Bool) : Nat → ByteArray
  | 0 => ByteArray.empty
  | k + 1 => if b k then tx b k ++ nm k else tx b k
def bl (b : Nat → Bool) : Nat → List Int
  | 0 => []
  | k + 1 => if b k then bl b k ++ [((tx b k).size : Int), ((tx b k).size : Int) + (nm k).size] else bl b k
def cl (b : Nat → Bool) (c : Nat → Int) : Nat → List Int
  | 0 => []
  | k + 1 => if b k then cl b c k ++ [c (rank b k)] else cl b c k

theorem tx_yes {b : Nat → Bool} {k : Nat} (h : b k = true) : tx b (k + 1) = tx b k ++ nm k := by show (if _ then _ else _) = _; rw [if_pos h]
theorem tx_no {b : Nat → Bool} {k : Nat} (h : b k = false) : tx b (k + 1) = tx b k := by show (if _ then _ else _) = _; rw [if_neg (by simp [h])]
theorem bl_yes {b : Nat → Bool} {k : Nat} (h : b k = true) : bl b (k + 1) = bl b k ++ [((tx b k).size : Int), ((tx b k).size : Int) + (nm k).size] := by show (if _ then _ else _) = _; rw [if_pos h]
theorem bl_no {b : Nat → Bool} {k : Nat} (h : b k = false) : bl b (k + 1) = bl b k := by show (if _ then _ else _) = _; rw [if_neg (by simp [h])]
theorem cl_yes {b : Nat → Bool} {c : Nat → Int} {k : Nat} (h : b k = true) : cl b c (k + 1) = cl b c k ++ [c (rank b k)] := by show (if _ then _ else _) = _; rw [if_pos h]
theorem cl_no {b : Nat → Bool} {c : Nat → Int} {k : Nat} (h : b k = false) : cl b c (k + 1) = cl b c k := by show (if _ then _ else _) = _; rw [if_neg (by simp [h])]

theorem tx_size (b : Nat → Bool) : ∀ k, (tx b k).size ≤ 3 * k
  | 0 => by simp [tx]
  | k + 1 => by
    have ih := tx_size b k
    have hn := nm_size k
    cases h : b k with
    | true => rw [tx_yes h, ByteArray.size_append]; omega
    | false => rw [tx_no h]; omega
theorem bl_len (b : Nat → Bool) : ∀ k, (bl b k).length = 2 * rank b k
  | 0 => rfl
  | k + 1 => by
    have ih := bl_len b k
    cases h : b k with
    | true => rw [bl_yes h, rank_yes h, List.length_append]; simp; omega
    | false => rw [bl_no h, rank_no h]; exact ih
theorem cl_len (b : Nat → Bool) (c : Nat → Int) : ∀ k, (cl b c k).length = rank b k
  | 0 => rfl
  | k + 1 => by
    have ih := cl_len b c k
    cases h : b k with
    | true => rw [cl_yes h, rank_yes h, List.length_append]; simp; omega
    | false => rw [cl_no h, rank_no h]; exact ih
theorem cl_get (b : Nat → Bool) (c : Nat → Int) : ∀ k i, i < rank b k → (cl b c k).getD i 0 = c i
  | 0, i => fun h => by simp [rank] at h
  | k + 1, i => fun hi => by
    have ih := cl_get b c k i
    have hl := cl_len b c k
    cases h : b k with
    | true =>
      rw [cl_yes h]
      rw [rank_yes h] at hi
      by_cases e : i < rank b k
      · rw [← ih e]
        simp only [List.getD]
        rw [List.getElem?_append_left (by omega)]
      · have e' : i = rank b k := by omega
        subst e'
        simp only [List.getD]
        rw [List.getElem?_append_right (by omega), hl]
        simp
    | false =>
      rw [cl_no h]
      rw [rank_no h] at hi
      exact ih hi

theorem bl_get (b : Nat → Bool) : ∀ K k, k < K → b k = true → (bl b K).getD (2 * rank b k) 0 = ((tx b k).size : Int) ∧ (bl b K).getD (2 * rank b k + 1) 0 = ((tx b k).size : Int) + (nm k).size
  | 0, k => fun h _ => by omega
  | K + 1, k => fun hk hb => by
    have ih := bl_get b K k
    have hl := bl_len b K
    by_cases e : k = K
    · subst e
      rw [bl_yes hb]
      simp only [List.getD]
      rw [List.getElem?_append_right (by omega), List.getElem?_append_right (by omega), hl]
      simp
    · have hlt : k < K := by omega
      have hr := rank_lt hlt hb
      obtain ⟨h1, h2⟩ := ih hlt hb
      cases h : b K with
      | true =>
        rw [bl_yes h]
        simp only [List.getD] at h1 h2 ⊢
        rw [List.getElem?_append_left (by omega), List.getElem?_append_left (by omega)]
        exact ⟨h1, h2⟩
      | false => rw [bl_no h]; exact ⟨h1, h2⟩

theorem tx_mono (b : Nat → Bool) : ∀ {k K : Nat}, k ≤ K → (tx b k).size ≤ (tx b K).size
  | k, 0 => fun h => by rw [show k = 0 by omega]; exact Nat.le_refl _
  | k, K + 1 => fun h => by
    by_cases e : k = K + 1
    · rw [e]; exact Nat.le_refl _
    · have ih := tx_mono b (show k ≤ K by omega)
      cases hb : b K with
      | true => rw [tx_yes hb, ByteArray.size_append]; omega
      | false => rw [tx_no hb]; exact ih

theorem tx_get (b : Nat → Bool) : ∀ K k, k < K → b k = true → (tx b k).size + (nm k).size ≤ (tx b K).size ∧ (tx b K).extract (tx b k).size ((tx b k).size + (nm k).size) = nm k
  | 0, k => fun h _ => by omega
  | K + 1, k => fun hk hb => by
    by_cases e : k = K
    · subst e
      rw [tx_yes hb]
      refine ⟨by rw [ByteArray.size_append]; exact Nat.le_refl _, ?_⟩
      exact ByteArray.extract_append_eq_right rfl rfl
    · obtain ⟨h1, h2⟩ := tx_get b K k (by omega) hb
      cases h : b K with
      | true =>
        rw [tx_yes h]
        refine ⟨by rw [ByteArray.size_append]; omega, ?_⟩
        rw [ByteArray.extract_append, h2]
        have e1 : (tx b k).size - (tx b K).size = 0 := by omega
        have e2 : (tx b k).size + (nm k).size - (tx b K).size = 0 := by omega
        rw [e1, e2]
        have e3 : (nm K).extract 0 0 = ByteArray.empty := by simp
        rw [e3]
        simp
      | false => rw [tx_no h]; exact ⟨h1, h2⟩
end Go.Proofs.Ybulkbtec.Plain
