import Derived.Test.YbulkbtecRows
import Derived.Test.YbulkbtecPlain
import Derived.WalkKit
import Derived.WalkLawsBesides
import Derived.WalkSpells
import Derived.Deep.OwnRows
import Derived.Deep.LoopGhost
import Derived.Deep.QuietTactic
import Derived.Deep.DeepCutAuto
import Derived.Deep.RegionHeld3
import Derived.Maps.AppendAt
import Derived.BigQuiet
import Derived.OpenShut
namespace Go.Proofs.Ybulkbtec
open Go.RowKit Plain

theorem Yba.info32 : (Yba.prog.info? 32).map (fun i => (i.zero, i.size, i.bytes)) = some (some (.int .u64 0), 1, 8) := by kernel_rfl
theorem Yba.info36 : (Yba.prog.info? 36).map (fun i => (i.zero, i.size, i.bytes)) = some (some (.agg #[.string ByteArray.empty, .int .u64 0, .int .u64 0]), 3, 32) := by kernel_rfl

theorem past {w w' w'' : World} (h : Below w.heap.size w w') (k : Below w'.heap.size w' w'') : Below w.heap.size w w'' := h.trans (k.mono h.size)
theorem ret_int {k : IntKind} {a b : Int} (h : a = b) : Ending.returned (.int k a) = .returned (.int k b) := by rw [h]

/-- From w to w': v's own block alone may have turned, there may be new blocks; and v' lies where v lay, or in a new block. -/
structure Step (w w' : World) (v v' : Value) : Prop where
  grown : w.grownBy w' v.ownBlock
  own : v'.ownBlock = v.ownBlock ∨ ∀ k, v'.ownBlock = some k → w.heap.size ≤ k
theorem Step.refl (w : World) (v : Value) : Step w w v v := ⟨World.grownBy.refl _ _, .inl rfl⟩
theorem Step.trans {w w1 w2 : World} {v v1 v2 : Value} (h : Step w w1 v v1) (k : Step w1 w2 v1 v2) : Step w w2 v v2 := by
  obtain ⟨g, o⟩ := h
  obtain ⟨g', o'⟩ := k
  refine ⟨⟨g'.os.trans g.os, g'.tape.trans g.tape, g'.output.trans g.output, Nat.le_trans g.size g'.size, fun b hb hne => ?_⟩, ?_⟩
  · have h1 := g.block b hb hne
    have h2 := g'.block b (Nat.lt_of_lt_of_le hb g.size) (fun e => by
      rcases o with o | o
      · exact hne (e.trans o)
      · have := o b e.symm; omega)
    exact h2.trans h1
  · rcases o' with o' | o'
    · rcases o with o | o
      · exact .inl (o'.trans o)
      · exact .inr fun k hk => o k (by rw [← o']; exact hk)
    · exact .inr fun k hk => Nat.le_trans g.size (o' k hk)
theorem Step.new {w w' : World} (v : Value) (h : Below w.heap.size w w') : Step w w' v v := ⟨⟨h.os, h.tape, h.output, h.size, fun k hk _ => h.block k hk⟩, .inl rfl⟩
theorem Step.alloc (w : World) (v : Value) (o : Obj) : Step w (w.alloc o) v v := Step.new v ((Below.refl _ _).alloc (Nat.le_refl _) _)
theorem Step.below {w w' : World} {v v' : Value} {B : Nat} (h : Step w w' v v') (hB : B ≤ w.heap.size) (hv : ∀ k, v.ownBlock = some k → B ≤ k) : Below B w w' :=
  (Below.refl B w).grown h.grown hB hv

/-- An append whose run is known, as a law for the walk. -/
theorem wpList_append_run {P : Program} {ops : Array Oper} {rest : List Oper} {o : Oper} {a : Act} {w w' : World} {Q : Exit → Act → World → Prop} {s x : Operand} {v src v' : Value} {T ty : TypeId} (hg : o.guard = none)
    (ho : o.op = .call { callee := .builtin .append, args := #[s, x], argTypes := #[T, T] }) (hty : o.type = ty) (hrun : (Builtin.append_ #[T, T] ty #[v, src]).run P w = .ok v' w') (hs : a.eval s = v) (hx : a.eval x = src)
    (h : wpList P ops Q rest (a.put o.dst v') w') : wpList P ops Q (o :: rest) a w := by
  refine wpList_plain hg fun K hK => ?_
  subst hty
  unfold Oper.wp
  simp [execOp, ho, resolve, invoke, builtin, hs, hx, hrun, Result.andThen]
  exact hK _ _ h

/-- An own slice of u64s. -/
def OwnU (w : World) (base : Nat) (v : Value) (l : List Int) : Prop := w.ownsRow base 32 1 v l.length (l.map (Value.int .u64))
theorem OwnU.nil (w : World) (base : Nat) : OwnU w base (.slice none 0 0) [] := World.ownsRow_nil w base 32 1
theorem OwnU.step {w w' : World} {base : Nat} {v u u' : Value} {l : List Int} (h : OwnU w base v l) (hs : Step w w' u u') (hne : v.ownBlock = none ∨ v.ownBlock ≠ u.ownBlock) : OwnU w' base v l := World.ownsRow.kept h hs.grown hne
theorem OwnU.below {w w' : World} {base : Nat} {v : Value} {l : List Int} (h : OwnU w base v l) (hb : Below w.heap.size w w') : OwnU w' base v l :=
  World.ownsRow.kept h (row := none) ⟨hb.os, hb.tape, hb.output, hb.size, fun k hk _ => hb.block k hk⟩ (by cases v.ownBlock <;> simp)

/-- 'append(v, x)' of one u64. -/
theorem append_u (w : World) (base : Nat) (v : Value) (l : List Int) (x : Int) (hown : OwnU w base v l) (hsz : l.length + 1 ≤ 100000) (hbase : base ≤ w.heap.size) :
    ∃ v' w', (Builtin.append_ #[23, 23] 23 #[v, .slice (some ⟨w.heap.size, 0, none⟩) 1 1]).run Yba.prog (w.alloc (.cells #[.int .u64 x] 32)) = .ok v' w' ∧ OwnU w' base v' (l ++ [x]) ∧ Step w w' v v' := by
  obtain ⟨i, hi, hz0, hz1, hz2⟩ := info_parts Yba.info32
  obtain ⟨v', w', h1, h2, h3, _, h5⟩ := run_append_own_at (P := Yba.prog) (w.alloc (.cells #[.int .u64 x] 32)) base 23 23 32 i (.int .u64 0) 1 8 Yba.underlying23 hi hz0 hz1 hz2 rfl (by omega) v l.length (l.map (Value.int .u64)) (World.ownsRow.alloc hown _)
    ⟨w.heap.size, 0, none⟩ 1 1 [.int .u64 x] rfl (fun j u hj => by
      match j, hj with
      | 0, hj => simp at hj; subst hj; simp [Addr.add]) (fun u hu => by simp at hu; subst hu; rfl) (by unfold maxLen; omega) (by omega) (by simp; omega)
  refine ⟨v', w', h1, ?_, (Step.alloc w v _).trans ⟨h3, ?_⟩⟩
  · unfold OwnU; rw [List.length_append, List.map_append]; exact h2
  · rcases h5 with h | h
    · exact .inl h
    · exact .inr fun k hk => by rw [h] at hk; simp at hk; simp; omega

/-- A slice of u64s that reads as f 0, f 1, .. -/
def U64s (w : World) (v : Value) (n : Nat) (f : Nat → Int) : Prop :=
  ∃ g cap, (v = .slice none 0 0 ∧ n = 0) ∨ (v = .slice (some ⟨g, 0, none⟩) n cap ∧ ∀ j, j < n → w.cell? ⟨g, j, none⟩ = some (.int .u64 (f j)))
theorem U64s.later {w w' : World} {v : Value} {n : Nat} {f : Nat → Int} (h : U64s w v n f) (hb : Below w.heap.size w w') : U64s w' v n f := by
  obtain ⟨g, cap, h⟩ := h
  refine ⟨g, cap, ?_⟩
  rcases h with h | ⟨h1, h2⟩
  · exact .inl h
  · refine .inr ⟨h1, fun j hj => ?_⟩
    rw [hb.cell (p := ⟨g, j, none⟩) (World.block_lt_of_cell? _ _ (h2 j hj))]
    exact h2 j hj
theorem U64s.congr {w : World} {v : Value} {n : Nat} {f g : Nat → Int} (h : U64s w v n f) (e : ∀ j, j < n → f j = g j) : U64s w v n g := by
  obtain ⟨gb, cap, h⟩ := h
  refine ⟨gb, cap, ?_⟩
  rcases h with h | ⟨h1, h2⟩
  · exact .inl h
  · exact .inr ⟨h1, fun j hj => by rw [h2 j hj, e j hj]⟩
theorem OwnU.reads {w : World} {base : Nat} {v : Value} {l : List Int} (h : OwnU w base v l) : U64s w v l.length (fun j => l.getD j 0) := by
  rcases h.2 with ⟨h1, h2⟩ | ⟨g, cap, cur, hv, hb, hg, hnc, hcm, hcs, htk⟩
  · exact ⟨0, 0, .inl ⟨h1, h2⟩⟩
  · refine ⟨g, cap, .inr ⟨hv, fun j hj => ?_⟩⟩
    rw [cell_of_row w g j cur 32 (0, 0) hg]
    have h1 : (cur.toList.take (l.length * 1))[j]? = cur[j]? := by rw [List.getElem?_take, if_pos (by omega)]; simp
    rw [← h1, htk]
    simp [List.getD, hj]

/-- The worlds in which nothing of W0 has turned. (A type of its own, so that each cell's fact is a rule without a condition.) -/
structure CW (W0 : World) where
  val : World
  ok : Below W0.heap.size W0 val

/-- A region that draws its order, whose operations and callees leave nothing of W0 turned: one walk of the lexical order serves every order. -/
theorem wp_region_cls {P : Program} {id : Nat} {Q : Exit → Act → World → Prop} {a : Act} {w : World} {l : List Oper} (W0 : World) (hm : P.follows .mixedOrders = true) (hB : Region.lexB .any l.toArray = true) (hC : Below W0.heap.size W0 w.drew)
    (h : wpQuiet P l.toArray (fun w' => ∃ n : CW W0, w' = n.val) (fun a' => ∀ w', (∃ n : CW W0, w' = n.val) → Q .normal a' w') l a) : (Code.region id l.toArray true).wp P Q a w :=
  wp_region_quiet (C := fun w' => ∃ n : CW W0, w' = n.val) hm hB ⟨⟨w.drew, hC⟩, rfl⟩ (by simpa using h)

theorem CW.any (W0 : World) : Nonempty (CW W0) := ⟨⟨W0, Below.refl _ _⟩⟩
theorem CW.cell {W0 : World} {a : Addr} {v : Value} (h : W0.cell? a = some v) (n : CW W0) : n.val.cell? a = some v := (n.ok.cell (World.block_lt_of_cell? _ _ h)).trans h

end Go.Proofs.Ybulkbtec
