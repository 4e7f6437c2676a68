import Derived.Test.YbulkbtecBuild
namespace Go.Proofs.Ybulkbtec
open Go.RowKit Plain

/-- The cells of a list of entries. -/
def ecs : List (ByteArray × Int × Int) → List Value
  | [] => []
  | e :: r => .string e.1 :: .int .u64 e.2.1 :: .int .u64 e.2.2 :: ecs r
theorem ecs_append (l m : List (ByteArray × Int × Int)) : ecs (l ++ m) = ecs l ++ ecs m := by
  induction l with
  | nil => rfl
  | cons e r ih => simp [ecs, ih]
theorem ecs_length (l : List (ByteArray × Int × Int)) : (ecs l).length = l.length * 3 := by
  induction l with
  | nil => rfl
  | cons e r ih => simp [ecs, ih]; omega
theorem ecs_get : ∀ (l : List (ByteArray × Int × Int)) (j : Nat) (e : ByteArray × Int × Int), l[j]? = some e → (ecs l)[j * 3]? = some (.string e.1) ∧ (ecs l)[j * 3 + 1]? = some (.int .u64 e.2.1) ∧ (ecs l)[j * 3 + 2]? = some (.int .u64 e.2.2)
  | [], j, e => fun h => by simp at h
  | x :: r, 0, e => fun h => by simp at h; subst h; exact ⟨rfl, rfl, rfl⟩
  | x :: r, j + 1, e => fun h => by
    have ih := ecs_get r j e (by simpa using h)
    have e1 : (j + 1) * 3 = j * 3 + 3 := by omega
    rw [e1]
    exact ⟨ih.1, ih.2.1, ih.2.2⟩

/-- An own slice of entries. -/
def OwnE (w : World) (base : Nat) (v : Value) (l : List (ByteArray × Int × Int)) : Prop := w.ownsRow base 36 3 v l.length (ecs l)
theorem OwnE.nil (w : World) (base : Nat) : OwnE w base (.slice none 0 0) [] := World.ownsRow_nil w base 36 3
theorem OwnE.step {w w' : World} {base : Nat} {v u u' : Value} {l : List (ByteArray × Int × Int)} (h : OwnE w base v l) (hs : Step w w' u u') (hne : v.ownBlock = none ∨ v.ownBlock ≠ u.ownBlock) : OwnE w' base v l := World.ownsRow.kept h hs.grown hne
theorem OwnE.below {w w' : World} {base : Nat} {v : Value} {l : List (ByteArray × Int × Int)} (h : OwnE w base v l) (hb : Below w.heap.size w w') : OwnE w' base v l :=
  World.ownsRow.kept h (row := none) ⟨hb.os, hb.tape, hb.output, hb.size, fun k hk _ => hb.block k hk⟩ (by cases v.ownBlock <;> simp)
theorem OwnE.form {w : World} {base : Nat} {v : Value} {l : List (ByteArray × Int × Int)} (h : OwnE w base v l) : ∃ a c, v = .slice a l.length c := by
  rcases h.2 with ⟨h1, h2⟩ | ⟨g, cap, cur, hv, _⟩
  · exact ⟨none, 0, by rw [h1, h2]⟩
  · exact ⟨_, _, hv⟩
theorem OwnE.cell {w : World} {base : Nat} {a : Option Addr} {n c : Nat} {l : List (ByteArray × Int × Int)} (h : OwnE w base (.slice a n c) l) (j : Nat) (e : ByteArray × Int × Int) (he : l[j]? = some e) :
    ∃ g, a = some ⟨g, 0, none⟩ ∧ w.cell? ⟨g, j * 3, none⟩ = some (.string e.1) ∧ w.cell? ⟨g, j * 3 + 1, none⟩ = some (.int .u64 e.2.1) ∧ w.cell? ⟨g, j * 3 + 2, none⟩ = some (.int .u64 e.2.2) := by
  have hj : j < l.length := (List.getElem?_eq_some_iff.1 he).1
  rcases h.2 with ⟨h1, h2⟩ | ⟨g, cap, cur, hv, hb, hg, hnc, hcm, hcs, htk⟩
  · omega
  · simp only [Value.slice.injEq] at hv
    obtain ⟨rfl, rfl, rfl⟩ := hv
    have hat : ∀ i, i < l.length * 3 → w.cell? ⟨g, i, none⟩ = (ecs l)[i]? := fun i hi => by
      rw [cell_of_row w g i cur 36 (0, 0) hg, ← htk, List.getElem?_take, if_pos hi]
      simp
    obtain ⟨q1, q2, q3⟩ := ecs_get l j e he
    exact ⟨g, rfl, by rw [hat _ (by omega), q1], by rw [hat _ (by omega), q2], by rw [hat _ (by omega), q3]⟩

/-- 'append(v, entry)'. -/
theorem append_e (w : World) (base : Nat) (v : Value) (l : List (ByteArray × Int × Int)) (h : ByteArray) (x y : Int) (hown : OwnE w base v l) (hsz : l.length + 1 ≤ 100000) (hbase : base ≤ w.heap.size) :
    ∃ v' w', (Builtin.append_ #[29, 29] 29 #[v, .slice (some ⟨w.heap.size, 0, none⟩) 1 1]).run Yba.prog (w.alloc (.cells #[.string h, .int .u64 x, .int .u64 y] 36)) = .ok v' w' ∧ OwnE w' base v' (l ++ [(h, x, y)]) ∧ Step w w' v v' := by
  obtain ⟨i, hi, hz0, hz1, hz2⟩ := info_parts Yba.info36
  obtain ⟨v', w', h1, h2, h3, _, h5⟩ := run_append_own_at (P := Yba.prog) (w.alloc (.cells #[.string h, .int .u64 x, .int .u64 y] 36)) base 29 29 36 i (.agg #[.string ByteArray.empty, .int .u64 0, .int .u64 0]) 3 32 Yba.underlying29 hi hz0 hz1 hz2 rfl (by omega) v l.length (ecs l) (World.ownsRow.alloc hown _)
    ⟨w.heap.size, 0, none⟩ 1 1 [.string h, .int .u64 x, .int .u64 y] rfl (fun j u hj => by
      match j, hj with
      | 0, hj => simp at hj; subst hj; simp [Addr.add]
      | 1, hj => simp at hj; subst hj; simp [Addr.add]
      | 2, hj => simp at hj; subst hj; simp [Addr.add]) (fun u hu => by simp at hu; rcases hu with rfl | rfl | rfl <;> rfl) (by unfold maxLen; omega) (by omega) (by simp; omega)
  refine ⟨v', w', h1, ?_, (Step.alloc w v _).trans ⟨h3, ?_⟩⟩
  · unfold OwnE; rw [List.length_append, ecs_append]; exact h2
  · rcases h5 with h | h
    · exact .inl h
    · exact .inr fun k hk => by rw [h] at hk; simp at hk; simp; omega

end Go.Proofs.Ybulkbtec
