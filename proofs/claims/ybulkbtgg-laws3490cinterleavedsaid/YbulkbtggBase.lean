import Derived.Test.YbulkbtggRows
import Derived.Test.YbulkbtggPlain
import Derived.WalkKit
import Derived.WalkLawsBesides
import Derived.WalkSpells
import Derived.Deep.OwnRows
import Derived.Deep.LoopGhost
import Derived.Deep.QuietTactic
import Derived.Deep.DeepCutAuto
import Derived.Deep.RegionHeld3
import Derived.Maps.AppendAt
import Derived.BigQuiet
import Derived.OpenShut
import Derived.Deep.RegionLaw
import Derived.Deep.CutBlock
import Derived.Lib.SliceRun
namespace Go.Proofs.Ybulkbtgg
open Go.RowKit Plain

theorem Yba.info24 : (Yba.prog.info? 24).map (fun i => (i.zero, i.size, i.bytes)) = some (some (.slice none 0 0), 1, 24) := by kernel_rfl
theorem Yba.info30 : (Yba.prog.info? 30).map (fun i => (i.zero, i.size, i.bytes)) = some (some (.pointer none), 1, 8) := by kernel_rfl
theorem Yba.info33 : (Yba.prog.info? 33).map (fun i => (i.zero.isSome, i.size, i.bytes)) = some (true, 4, 32) := by kernel_rfl

theorem past {w w' w'' : World} (h : Below w.heap.size w w') (k : Below w'.heap.size w' w'') : Below w.heap.size w w'' := h.trans (k.mono h.size)
theorem bc {W w' : World} {a : Addr} {v : Value} (hb : Below W.heap.size W w') (h : W.cell? a = some v) : w'.cell? a = some v := (hb.cell (World.block_lt_of_cell? _ _ h)).trans h

/-- 'make([]value.Value, n)': a new block; what lies in it is not asked. -/
theorem make_v (n : Nat) (hn : n ≤ 100000) : ∃ c : Array Value, ∀ w, (Instr.makeSlice 24 (.int .i64 (n : Int)) (.int .i64 (n : Int))).run Yba.prog w = .ok (.slice (some ⟨w.heap.size, 0, none⟩) n n) (w.alloc (.cells c 33)) := by
  obtain ⟨i, hi, hzz⟩ := Option.map_eq_some_iff.1 Yba.info33
  simp only [Prod.mk.injEq] at hzz
  obtain ⟨hz, hs, hb⟩ := hzz
  obtain ⟨z, hz⟩ := Option.isSome_iff_exists.1 hz
  refine ⟨madeCells z.cells (n * 4), fun w => ?_⟩
  have hr := run_make (P := Yba.prog) w 24 33 i z Yba.underlying24 hi hz .i64 .i64 n n (by omega) (Int.le_refl _) (by rw [hb]; omega) (by omega)
  simp only [Int.toNat_natCast, hs] at hr
  exact hr

/-- From w to w': v's own block alone may have turned, there may be new blocks; and v' lies where v lay, or in a new block. -/
structure Step (w w' : World) (v v' : Value) : Prop where
  grown : w.grownBy w' v.ownBlock
  own : v'.ownBlock = v.ownBlock ∨ ∀ k, v'.ownBlock = some k → w.heap.size ≤ k
theorem Step.trans {w w1 w2 : World} {v v1 v2 : Value} (h : Step w w1 v v1) (k : Step w1 w2 v1 v2) : Step w w2 v v2 := by
  obtain ⟨g, o⟩ := h
  obtain ⟨g', o'⟩ := k
  refine ⟨⟨g'.os.trans g.os, g'.tape.trans g.tape, g'.output.trans g.output, Nat.le_trans g.size g'.size, fun b hb hne => ?_⟩, ?_⟩
  · have h1 := g.block b hb hne
    have h2 := g'.block b (Nat.lt_of_lt_of_le hb g.size) (fun e => by
      rcases o with o | o
      · exact hne (e.trans o)
      · have := o b e.symm; omega)
    exact h2.trans h1
  · rcases o' with o' | o'
    · rcases o with o | o
      · exact .inl (o'.trans o)
      · exact .inr fun k hk => o k (by rw [← o']; exact hk)
    · exact .inr fun k hk => Nat.le_trans g.size (o' k hk)
theorem Step.new {w w' : World} (v : Value) (h : Below w.heap.size w w') : Step w w' v v := ⟨⟨h.os, h.tape, h.output, h.size, fun k hk _ => h.block k hk⟩, .inl rfl⟩
theorem Step.below {w w' : World} {v v' : Value} {B : Nat} (h : Step w w' v v') (hB : B ≤ w.heap.size) (hv : ∀ k, v.ownBlock = some k → B ≤ k) : Below B w w' :=
  (Below.refl B w).grown h.grown hB hv

/-- An append whose run is known, as a law for the walk. -/
theorem wpList_append_run {P : Program} {ops : Array Oper} {rest : List Oper} {o : Oper} {a : Act} {w w' : World} {Q : Exit → Act → World → Prop} {s x : Operand} {v src v' : Value} {T ty : TypeId} (hg : o.guard = none)
    (ho : o.op = .call { callee := .builtin .append, args := #[s, x], argTypes := #[T, T] }) (hty : o.type = ty) (hrun : (Builtin.append_ #[T, T] ty #[v, src]).run P w = .ok v' w') (hs : a.eval s = v) (hx : a.eval x = src)
    (h : wpList P ops Q rest (a.put o.dst v') w') : wpList P ops Q (o :: rest) a w := by
  refine wpList_plain hg fun K hK => ?_
  subst hty
  unfold Oper.wp
  simp [execOp, ho, resolve, invoke, builtin, hs, hx, hrun, Result.andThen]
  exact hK _ _ h

/-- The same, as one step of a region that draws its order. -/
theorem step_append_run {P : Program} {ops : Array Oper} {o : Oper} {a : Act} {w w' : World} {K : Act → World → Prop} {Q : Exit → Act → World → Prop} {E : Prop} {s x : Operand} {v src v' : Value} {T ty : TypeId} (hg : o.guard = none)
    (ho : o.op = .call { callee := .builtin .append, args := #[s, x], argTypes := #[T, T] }) (hty : o.type = ty) (hrun : (Builtin.append_ #[T, T] ty #[v, src]).run P w = .ok v' w') (hs : a.eval s = v) (hx : a.eval x = src)
    (hK : K (a.put o.dst v') w') : if Region.wanted o (yielded ops a.tmps) = true then Oper.wp P o a w K Q else E := by
  have hw : Region.wanted o (yielded ops a.tmps) = true := by simp [Region.wanted, hg]
  rw [if_pos hw]
  subst hty
  unfold Oper.wp
  simp [execOp, ho, resolve, invoke, builtin, hs, hx, hrun, Result.andThen]
  exact hK
theorem undrewB {B : Nat} {W w' : World} (h : Below B W.drew w') : Below B W w' := ⟨h.os, h.tape, h.output, h.size, h.block⟩

/-- An own slice of one-cell values, of the element type E. -/
def OwnV (E : TypeId) (w : World) (base : Nat) (v : Value) (l : List Value) : Prop := w.ownsRow base E 1 v l.length l
theorem OwnV.nil (E : TypeId) (w : World) (base : Nat) : OwnV E w base (.slice none 0 0) [] := World.ownsRow_nil w base E 1
theorem OwnV.kept {E : TypeId} {w w' : World} {base : Nat} {v : Value} {l : List Value} {row : Option Nat} (h : OwnV E w base v l) (hs : w.grownBy w' row) (hne : v.ownBlock = none ∨ v.ownBlock ≠ row) : OwnV E w' base v l := World.ownsRow.kept h hs hne
theorem OwnV.below {E : TypeId} {w w' : World} {base : Nat} {v : Value} {l : List Value} (h : OwnV E w base v l) (hb : Below w.heap.size w w') : OwnV E w' base v l :=
  World.ownsRow.kept h (row := none) ⟨hb.os, hb.tape, hb.output, hb.size, fun k hk _ => hb.block k hk⟩ (by cases v.ownBlock <;> simp)
theorem OwnV.form {E : TypeId} {w : World} {base : Nat} {v : Value} {l : List Value} (h : OwnV E w base v l) : ∃ a c, v = .slice a l.length c := by
  rcases h.2 with ⟨h1, h2⟩ | ⟨g, cap, cur, hv, _⟩
  · exact ⟨none, 0, by rw [h1, h2]⟩
  · exact ⟨_, _, hv⟩
theorem OwnV.cell {E : TypeId} {w : World} {base : Nat} {a : Option Addr} {n c : Nat} {l : List Value} (h : OwnV E w base (.slice a n c) l) (j : Nat) (x : Value) (hx : l[j]? = some x) :
    ∃ g, a = some ⟨g, 0, none⟩ ∧ w.cell? ⟨g, j, none⟩ = some x := by
  have hj : j < l.length := (List.getElem?_eq_some_iff.1 hx).1
  rcases h.2 with ⟨h1, h2⟩ | ⟨g, cap, cur, hv, hb, hg, hnc, hcm, hcs, htk⟩
  · omega
  · simp only [Value.slice.injEq] at hv
    obtain ⟨rfl, rfl, rfl⟩ := hv
    refine ⟨g, rfl, ?_⟩
    rw [cell_of_row w g j cur E (0, 0) hg]
    have h1 : (cur.toList.take (l.length * 1))[j]? = cur[j]? := by rw [List.getElem?_take, if_pos (by omega)]; simp
    rw [← h1, htk, hx]

/-- 'append(v, x)' of one slice, to a slice of slices. -/
theorem append_s (w : World) (base : Nat) (v : Value) (l : List Value) (a : Option Addr) (n c : Nat) (hown : OwnV 24 w base v l) (hsz : l.length + 1 ≤ 100000) (hbase : base ≤ w.heap.size) :
    ∃ v' w', (Builtin.append_ #[25, 25] 25 #[v, .slice (some ⟨w.heap.size, 0, none⟩) 1 1]).run Yba.prog (w.alloc (.cells #[.slice a n c] 24)) = .ok v' w' ∧ OwnV 24 w' base v' (l ++ [.slice a n c]) ∧ Step w w' v v' := by
  obtain ⟨i, hi, hz0, hz1, hz2⟩ := info_parts Yba.info24
  obtain ⟨v', w', h1, h2, h3, _, h5⟩ := run_append_own_at (P := Yba.prog) (w.alloc (.cells #[.slice a n c] 24)) base 25 25 24 i (.slice none 0 0) 1 24 Yba.underlying25 hi hz0 hz1 hz2 rfl (by omega) v l.length l (World.ownsRow.alloc hown _)
    ⟨w.heap.size, 0, none⟩ 1 1 [.slice a n c] rfl (fun j u hj => by
      match j, hj with
      | 0, hj => simp at hj; subst hj; simp [Addr.add]) (fun u hu => by simp at hu; subst hu; rfl) (by unfold maxLen; omega) (by omega) (by simp; omega)
  refine ⟨v', w', h1, ?_, (Step.new v ((Below.refl _ _).alloc (Nat.le_refl _) _)).trans ⟨h3, ?_⟩⟩
  · unfold OwnV; rw [List.length_append]; exact h2
  · rcases h5 with h | h
    · exact .inl h
    · exact .inr fun k hk => by rw [h] at hk; simp at hk; simp; omega
/-- 'append(v, p)' of one pointer. -/
theorem append_p (w : World) (base : Nat) (v : Value) (l : List Value) (a : Option Addr) (hown : OwnV 30 w base v l) (hsz : l.length + 1 ≤ 100000) (hbase : base ≤ w.heap.size) :
    ∃ v' w', (Builtin.append_ #[28, 28] 28 #[v, .slice (some ⟨w.heap.size, 0, none⟩) 1 1]).run Yba.prog (w.alloc (.cells #[.pointer a] 30)) = .ok v' w' ∧ OwnV 30 w' base v' (l ++ [.pointer a]) ∧ Step w w' v v' := by
  obtain ⟨i, hi, hz0, hz1, hz2⟩ := info_parts Yba.info30
  obtain ⟨v', w', h1, h2, h3, _, h5⟩ := run_append_own_at (P := Yba.prog) (w.alloc (.cells #[.pointer a] 30)) base 28 28 30 i (.pointer none) 1 8 Yba.underlying28 hi hz0 hz1 hz2 rfl (by omega) v l.length l (World.ownsRow.alloc hown _)
    ⟨w.heap.size, 0, none⟩ 1 1 [.pointer a] rfl (fun j u hj => by
      match j, hj with
      | 0, hj => simp at hj; subst hj; simp [Addr.add]) (fun u hu => by simp at hu; subst hu; rfl) (by unfold maxLen; omega) (by omega) (by simp; omega)
  refine ⟨v', w', h1, ?_, (Step.new v ((Below.refl _ _).alloc (Nat.le_refl _) _)).trans ⟨h3, ?_⟩⟩
  · unfold OwnV; rw [List.length_append]; exact h2
  · rcases h5 with h | h
    · exact .inl h
    · exact .inr fun k hk => by rw [h] at hk; simp at hk; simp; omega
end Go.Proofs.Ybulkbtgg
