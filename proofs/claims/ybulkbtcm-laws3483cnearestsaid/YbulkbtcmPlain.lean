/- The plain law of the edit distance's table: no Go in sight. -/
namespace Go.Proofs.Ybulkbtcm.Plain

/-- The next row of the table: 'p' the row above, 'x' the letter of a, 'b' the letters of b, 'i' the number of the row above. -/
def nextRow (p : Nat → Nat) (x : Int) (b : Nat → Int) (i : Nat) : Nat → Nat
  | 0 => i + 1
  | j + 1 => min (min (p j + (if x = b j then 0 else 1)) (p (j + 1) + 1)) (nextRow p x b i j + 1)

/-- The table: the cell at row i, column j. -/
def D (a b : Nat → Int) : Nat → Nat → Nat
  | 0 => fun j => j
  | i + 1 => nextRow (D a b i) (a i) b i

theorem D_zero (a b : Nat → Int) (j : Nat) : D a b 0 j = j := rfl
theorem D_left (a b : Nat → Int) (i : Nat) : D a b i 0 = i := by cases i <;> rfl
theorem D_step (a b : Nat → Int) (i j : Nat) : D a b (i + 1) (j + 1) = min (min (D a b i j + (if a i = b j then 0 else 1)) (D a b i (j + 1) + 1)) (D a b (i + 1) j + 1) := rfl

/-- A cell is at least as far off as its row and column are. -/
theorem D_gap (a b : Nat → Int) : ∀ i j, i ≤ D a b i j + j ∧ j ≤ D a b i j + i
  | 0, j => by rw [D_zero]; omega
  | i + 1, 0 => by rw [D_left]; omega
  | i + 1, j + 1 => by
    have h1 := D_gap a b i j
    have h2 := D_gap a b i (j + 1)
    have h3 := D_gap a b (i + 1) j
    rw [D_step]
    split <;> omega

theorem D_le (a b : Nat → Int) : ∀ i j, D a b i j ≤ i + j
  | 0, j => by rw [D_zero]; omega
  | i + 1, 0 => by rw [D_left]; omega
  | i + 1, j + 1 => by
    have h2 := D_le a b i (j + 1)
    have h3 := D_le a b (i + 1) j
    rw [D_step]
    omega

theorem D_congr {a a' b b' : Nat → Int} {n m : Nat} (ha : ∀ i, i < n → a i = a' i) (hb : ∀ j, j < m → b j = b' j) : ∀ i j, i ≤ n → j ≤ m → D a b i j = D a' b' i j
  | 0, j => fun _ _ => rfl
  | i + 1, 0 => fun _ _ => by rw [D_left, D_left]
  | i + 1, j + 1 => fun hi hj => by
    rw [D_step, D_step, D_congr ha hb i j (by omega) (by omega), D_congr ha hb i (j + 1) (by omega) hj, D_congr ha hb (i + 1) j hi (by omega), ha i (by omega), hb j (by omega)]

end Go.Proofs.Ybulkbtcm.Plain
