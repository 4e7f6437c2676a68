/- Plain notions: chunks (block, rows), the rooms in them. No Go in sight. -/
namespace Go.Proofs.Ybulkbtgg.Plain

/-- The rooms of a chunk: the block g, each D cells further. -/
def cr (D g : Nat) : Nat → List (Nat × Nat)
  | 0 => []
  | s + 1 => cr D g s ++ [(g, s * D)]
theorem cr_len (D g : Nat) : ∀ s, (cr D g s).length = s
  | 0 => rfl
  | s + 1 => by simp [cr, cr_len D g s]
theorem cr_get (D g : Nat) : ∀ s o, o < s → (cr D g s)[o]? = some (g, o * D)
  | 0, o => fun h => by omega
  | s + 1, o => fun h => by
    by_cases e : o < s
    · rw [cr, List.getElem?_append_left (by rw [cr_len]; exact e), cr_get D g s o e]
    · obtain rfl : o = s := by omega
      rw [cr, List.getElem?_append_right (by rw [cr_len]; exact Nat.le_refl _), cr_len]; simp

/-- The rooms of all chunks, in order; how many. -/
def rooms (D : Nat) : List (Nat × Nat) → List (Nat × Nat)
  | [] => []
  | c :: r => cr D c.1 c.2 ++ rooms D r
def tot : List (Nat × Nat) → Nat
  | [] => 0
  | c :: r => c.2 + tot r
theorem rooms_append (D : Nat) : ∀ a b, rooms D (a ++ b) = rooms D a ++ rooms D b
  | [], b => rfl
  | c :: a, b => by simp [rooms, rooms_append D a b]
theorem tot_append : ∀ a b, tot (a ++ b) = tot a + tot b
  | [], b => by simp [tot]
  | c :: a, b => by simp [tot, tot_append a b]; omega
theorem rooms_len (D : Nat) : ∀ cs, (rooms D cs).length = tot cs
  | [] => rfl
  | c :: r => by simp [rooms, tot, cr_len, rooms_len D r]
theorem rooms_get (D : Nat) (pre post : List (Nat × Nat)) (g s o : Nat) (h : o < s) : (rooms D (pre ++ (g, s) :: post))[tot pre + o]? = some (g, o * D) := by
  rw [rooms_append, List.getElem?_append_right (by rw [rooms_len]; omega), rooms_len, show tot pre + o - tot pre = o by omega]
  simp only [rooms]
  rw [List.getElem?_append_left (by rw [cr_len]; exact h), cr_get D g s o h]

/-- The i-th room; (0, 0) where there is none. -/
def rm (D : Nat) (cs : List (Nat × Nat)) (i : Nat) : Nat × Nat := (rooms D cs).getD i (0, 0)
theorem rm_at (D : Nat) (pre post : List (Nat × Nat)) (g s o : Nat) (h : o < s) : rm D (pre ++ (g, s) :: post) (tot pre + o) = (g, o * D) := by
  simp [rm, List.getD, rooms_get D pre post g s o h]
theorem rm_old (D : Nat) (cs es : List (Nat × Nat)) (i : Nat) (h : i < tot cs) : rm D (cs ++ es) i = rm D cs i := by
  simp only [rm, List.getD, rooms_append]
  rw [List.getElem?_append_left (by rw [rooms_len]; exact h)]
end Go.Proofs.Ybulkbtgg.Plain
