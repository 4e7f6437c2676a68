import Derived.Test.YbulkbtdaBase
namespace Go.Proofs.Ybulkbtda
open Go.RowKit

/-- The slice value v is the call's own (nil, or at the head of a block from 'base' on, whatever that block's type) and its bytes are l. -/
def Own (w : World) (base : Nat) (v : Value) (l : List Int) : Prop :=
  (v = .slice none 0 0 ∧ l = []) ∨
  ∃ g cap cur t, v = .slice (some ⟨g, 0, none⟩) l.length cap ∧ base ≤ g ∧ w.heap[g]? = some (.cells cur t (0, 0)) ∧ l.length ≤ cap ∧ cap ≤ maxLen ∧ cur.size = cap ∧ cur.toList.take l.length = l.map (Value.int .u8)

theorem Own.nil (w : World) (base : Nat) : Own w base (.slice none 0 0) [] := .inl ⟨rfl, rfl⟩

theorem Own.lt {w : World} {base : Nat} {v : Value} {l : List Int} (h : Own w base v l) : ∀ k, v.ownBlock = some k → base ≤ k ∧ k < w.heap.size := by
  intro k hk
  rcases h with ⟨rfl, _⟩ | ⟨g, cap, cur, t, rfl, hb, hg, _⟩
  · simp [Value.ownBlock] at hk
  · simp [Value.ownBlock] at hk
    subst hk
    exact ⟨hb, (Array.getElem?_eq_some_iff.1 hg).1⟩

theorem Own.kept {w w' : World} {base : Nat} {v : Value} {l : List Int} {row : Option Nat} (h : Own w base v l) (hg : w.grownBy w' row) (hne : v.ownBlock = none ∨ v.ownBlock ≠ row) : Own w' base v l := by
  rcases h with h | ⟨g, cap, cur, t, rfl, hb, hgg, rest⟩
  · exact .inl h
  · refine .inr ⟨g, cap, cur, t, rfl, hb, ?_, rest⟩
    rw [hg.block g (Array.getElem?_eq_some_iff.1 hgg).1 (by simpa [Value.ownBlock] using hne)]
    exact hgg

theorem Own.below {w w' : World} {base : Nat} {v : Value} {l : List Int} (h : Own w base v l) (hb : Below w.heap.size w w') : Own w' base v l :=
  h.kept (row := none) ⟨hb.os, hb.tape, hb.output, hb.size, fun k hk _ => hb.block k hk⟩ (by cases v.ownBlock <;> simp)

/-- Its cells. -/
theorem Own.cell {w : World} {base g n cap : Nat} {l : List Int} (h : Own w base (.slice (some ⟨g, 0, none⟩) n cap) l) : n = l.length ∧ base ≤ g ∧ ∀ j, j < l.length → w.cell? ⟨g, j, none⟩ = some (.int .u8 (l.getD j 0)) := by
  rcases h with ⟨h, _⟩ | ⟨g', cap', cur, t, hv, hb, hg, hlc, hcm, hcs, htk⟩
  · cases h
  · simp only [Value.slice.injEq, Option.some.injEq, Addr.mk.injEq, and_true] at hv
    obtain ⟨rfl, rfl, rfl⟩ := hv
    refine ⟨rfl, hb, fun j hj => ?_⟩
    rw [cell_of_row w g j cur t (0, 0) hg]
    have h1 : (cur.toList.take l.length)[j]? = cur[j]? := by rw [List.getElem?_take, if_pos hj]; simp
    rw [← h1, htk]
    simp [List.getD, hj]

theorem run_append_room' {P : Program} (w : World) (t ty e t' : TypeId) (i : TypeInfo) (ht : P.underlying t = some (.slice e)) (hi : P.info? e = some i)
    (g sLen sCap : Nat) (cur : Array Value) (hg : w.heap[g]? = some (.cells cur t' (0, 0)))
    (a : Addr) (m c : Nat) (news : List Value) (hl : news.length = m * i.size) (hnews : ∀ j u, news[j]? = some u → w.cell? (a.add j) = some u) (h1 : ∀ u ∈ news, u.oneCell' = true)
    (hroom : sLen + m ≤ sCap) (hfit : sLen * i.size + news.length ≤ cur.size) :
    (Builtin.append_ #[t, t] ty #[.slice (some ⟨g, 0, none⟩) sLen sCap, .slice (some a) m c]).run P w =
      .ok (.slice (some ⟨g, 0, none⟩) (sLen + m) sCap) (w.setRow g (cur.toList.take (sLen * i.size) ++ news ++ cur.toList.drop (sLen * i.size + news.length)).toArray) := by
  have hf := run_firstCells_some (P := P) w i.size m a m c news hl hnews
  have hst := run_storeCells_at P g (sLen * i.size) t' news 0 cur w hg (by simpa using hfit) h1
  simp only [Nat.add_zero] at hst
  simp [Builtin.append_, run_underlying ht, sizeOf, typeInfo, hi, Builtin.lenOf, hroom, hf, Addr.add_lit, hst]

/-- What is appended: m bytes at address 'ao' (any, where m is 0 and it is nil). -/
def Src (w : World) (ao : Option Addr) (news : List Int) : Prop := ∀ a, ao = some a → ∀ j, j < news.length → w.cell? (a.add j) = some (.int .u8 (news.getD j 0))

/-- From w to w': v's own block alone may have turned, there may be new blocks; and v' lies where v lay, or in a new block. -/
structure Step (w w' : World) (v v' : Value) : Prop where
  grown : w.grownBy w' v.ownBlock
  own : v'.ownBlock = v.ownBlock ∨ ∀ k, v'.ownBlock = some k → w.heap.size ≤ k

theorem Step.refl (w : World) (v : Value) : Step w w v v := ⟨World.grownBy.refl _ _, .inl rfl⟩
theorem Step.trans {w w1 w2 : World} {v v1 v2 : Value} (h : Step w w1 v v1) (k : Step w1 w2 v1 v2) : Step w w2 v v2 := by
  obtain ⟨g, o⟩ := h
  obtain ⟨g', o'⟩ := k
  refine ⟨⟨g'.os.trans g.os, g'.tape.trans g.tape, g'.output.trans g.output, Nat.le_trans g.size g'.size, fun b hb hne => ?_⟩, ?_⟩
  · have h1 := g.block b hb hne
    have h2 := g'.block b (Nat.lt_of_lt_of_le hb g.size) (fun e => by
      rcases o with o | o
      · exact hne (e.trans o)
      · have := o b e.symm; omega)
    exact h2.trans h1
  · rcases o' with o' | o'
    · rcases o with o | o
      · exact .inl (o'.trans o)
      · exact .inr fun k hk => o k (by rw [← o']; exact hk)
    · exact .inr fun k hk => Nat.le_trans g.size (o' k hk)
theorem Step.new {w w' : World} (v : Value) (h : Below w.heap.size w w') : Step w w' v v := ⟨⟨h.os, h.tape, h.output, h.size, fun k hk _ => h.block k hk⟩, .inl rfl⟩
theorem Step.alloc (w : World) (v : Value) (o : Obj) : Step w (w.alloc o) v v := Step.new v ((Below.refl _ _).alloc (Nat.le_refl _) _)
theorem Step.below {w w' : World} {v v' : Value} {B : Nat} (h : Step w w' v v') (hB : B ≤ w.heap.size) (hv : ∀ k, v.ownBlock = some k → B ≤ k) : Below B w w' :=
  (Below.refl B w).grown h.grown hB hv
theorem Step.row {w w' : World} {v v' : Value} {b : Nat} {t : TypeId} {n : Nat} {f : Nat → Value} (h : Step w w' v v') (hr : w.rowIs b t n f) (hb : some b ≠ v.ownBlock) : w'.rowIs b t n f :=
  hr.of_block (h.grown.block b hr.lt hb)

/-- 'append(v, news...)', v the call's own. -/
theorem append_own (w : World) (base : Nat) (v : Value) (l news : List Int) (ao : Option Addr) (c : Nat) (hown : Own w base v l) (hnone : ao = none → news = [] ∧ c = 0) (hs : Src w ao news) (hsz : l.length + news.length ≤ 100000) (hbase : base ≤ w.heap.size) :
    ∃ v' w', (∀ ty, (Builtin.append_ #[22, 22] ty #[v, .slice ao news.length c]).run Yba.prog w = .ok v' w') ∧ Own w' base v' (l ++ news) ∧ Step w w' v v' := by
  obtain ⟨i, hi, hz0, hz1, hz2⟩ := info_parts Yba.info5
  have h1c := ints_oneCell .u8 news
  cases ao with
  | none =>
    obtain ⟨rfl, rfl⟩ := hnone rfl
    refine ⟨v, w, fun ty => ?_, by simpa using hown, Step.refl _ _⟩
    rcases hown with ⟨rfl, rfl⟩ | ⟨g, cap, cur, t, rfl, hb, hg, hlc, hcm, hcs, htk⟩
    · simp [Builtin.append_, run_underlying Yba.underlying22, sizeOf, typeInfo, hi, Builtin.lenOf, Builtin.firstCells]
    · simp [Builtin.append_, run_underlying Yba.underlying22, sizeOf, typeInfo, hi, Builtin.lenOf, Builtin.firstCells, hlc, storeCells]
  | some a =>
    have hnews : ∀ j u, (news.map (Value.int .u8))[j]? = some u → w.cell? (a.add j) = some u := by
      intro j u hu
      have hj : j < news.length := by have := (List.getElem?_eq_some_iff.1 hu).1; simpa using this
      rw [hs a rfl j hj, ← hu]
      simp [List.getD, hj]
    have hln : (news.map (Value.int .u8)).length = news.length * i.size := by rw [hz1]; simp
    have hlen : ((l ++ news).map (Value.int .u8)) = l.map (Value.int .u8) ++ news.map (Value.int .u8) := by simp
    have grown : ∀ (old : Nat) (row : Option Nat), Own (w.drew.alloc (.cells ((l.map (Value.int .u8)).toArray ++ (news.map (Value.int .u8)).toArray ++ Builtin.zeroCells (Value.int .u8 0).cells (grownCap w (l.length + news.length) old 5 - (l.length + news.length))) 5)) base (.slice (some ⟨w.heap.size, 0, none⟩) (l.length + news.length) (grownCap w (l.length + news.length) old 5)) (l ++ news) ∧
        w.grownBy (w.drew.alloc (.cells ((l.map (Value.int .u8)).toArray ++ (news.map (Value.int .u8)).toArray ++ Builtin.zeroCells (Value.int .u8 0).cells (grownCap w (l.length + news.length) old 5 - (l.length + news.length))) 5)) row := by
      intro old row
      have hge := grownCap_ge w (l.length + news.length) old 5
      have hcm : grownCap w (l.length + news.length) old 5 ≤ maxLen := grownCap_le_maxLen w _ old 5 (by unfold maxLen; omega)
      refine ⟨.inr ⟨w.heap.size, _, _, 5, by simp, hbase, heap_alloc_new w.drew _, by simpa using hge, hcm, ?_, ?_⟩, ⟨rfl, rfl, rfl, by simp, fun k hk _ => Below.heap_alloc w.drew _ k hk⟩⟩
      · simp only [Array.size_append, List.size_toArray, size_zeroCells, List.length_map]
        simp [Value.cells]
        omega
      · rw [hlen]
        simp only [Array.toList_append]
        rw [List.take_append_of_le_length (by simp)]
        exact List.take_of_length_le (by simp)
    rcases hown with ⟨rfl, rfl⟩ | ⟨g, cap, cur, t, rfl, hb, hg, hlc, hcm, hcs, htk⟩
    · by_cases hm : news.length = 0
      · have hn : news = [] := List.eq_nil_of_length_eq_zero hm
        subst hn
        refine ⟨.slice none 0 0, w, fun ty => ?_, Own.nil w base, Step.refl _ _⟩
        simp [Builtin.append_, run_underlying Yba.underlying22, sizeOf, typeInfo, hi, Builtin.lenOf, Builtin.firstCells, loadCells, loadCellsFrom]
      · have hr := fun ty => run_append_nil (P := Yba.prog) w 22 ty 5 i (.int .u8 0) Yba.underlying22 hi hz0 a news.length c (news.map (Value.int .u8)) hln hnews (by omega) (by omega) (by rw [hz2]; omega)
        have hgr := grown 0 (Value.ownBlock (.slice none 0 0))
        simp only [List.length_nil, Nat.zero_add, List.map_nil, List.nil_append, Array.empty_append] at hgr ⊢
        exact ⟨_, _, hr, hgr.1, hgr.2, .inr (fun k hk => by simp [Value.ownBlock] at hk; omega)⟩
    · by_cases hroom : l.length + news.length ≤ cap
      · have hr := fun ty => run_append_room' (P := Yba.prog) w 22 ty 5 t i Yba.underlying22 hi g l.length cap cur hg a news.length c (news.map (Value.int .u8)) hln hnews h1c hroom (by rw [hz1]; simp; omega)
        refine ⟨_, _, hr, .inr ⟨g, cap, _, t, by simp, hb, setRow_heap w g cur _ t _ hg, by simpa using hroom, hcm, ?_, ?_⟩, ⟨⟨rfl, rfl, rfl, by simp, fun k _ hk => setRow_other w g k _ (fun e => hk (by simp [Value.ownBlock, e]))⟩, .inl rfl⟩⟩
        · simp [hz1]; omega
        · rw [hlen, hz1, Nat.mul_one, htk]
          rw [List.take_append_of_le_length (by simp)]
          exact List.take_of_length_le (by simp)
      · have holds : ∀ j u, (l.map (Value.int .u8))[j]? = some u → w.cell? ((⟨g, 0, none⟩ : Addr).add j) = some u := by
          intro j u hu
          have hj : j < l.length := by have := (List.getElem?_eq_some_iff.1 hu).1; simpa using this
          rw [Addr.add_lit, Nat.zero_add, cell_of_row w g j cur t (0, 0) hg, ← hu, ← htk, List.getElem?_take, if_pos hj]
          simp
        have hr := fun ty => run_append_grow (P := Yba.prog) w 22 ty 5 i (.int .u8 0) Yba.underlying22 hi hz0 ⟨g, 0, none⟩ l.length cap (l.map (Value.int .u8)) (by rw [hz1]; simp) holds a news.length c (news.map (Value.int .u8)) hln hnews (by omega) (by omega) (growslice_fits (by omega) (by rw [hz2]; omega))
        have hgr := grown cap (Value.ownBlock (.slice (some ⟨g, 0, none⟩) l.length cap))
        exact ⟨_, _, hr, hgr.1, hgr.2, .inr (fun k hk => by simp [Value.ownBlock] at hk; omega)⟩

/-- An append whose run is known, as a law for the walk. -/
theorem wpList_append_run {P : Program} {ops : Array Oper} {rest : List Oper} {o : Oper} {a : Act} {w w' : World} {Q : Exit → Act → World → Prop} {s x : Operand} {v src v' : Value} {T : TypeId} (hg : o.guard = none)
    (ho : o.op = .call { callee := .builtin .append, args := #[s, x], argTypes := #[T, T] }) (hrun : ∀ ty, (Builtin.append_ #[T, T] ty #[v, src]).run P w = .ok v' w') (hs : a.eval s = v) (hx : a.eval x = src)
    (h : wpList P ops Q rest (a.put o.dst v') w') : wpList P ops Q (o :: rest) a w := by
  refine wpList_plain hg fun K hK => ?_
  unfold Oper.wp
  simp [execOp, ho, resolve, invoke, builtin, hs, hx, hrun, Result.andThen]
  exact hK _ _ h

/-- .. of one byte, which lies in a block of its own. -/
theorem append_one (w : World) (base : Nat) (v : Value) (l : List Int) (b : Int) (hown : Own w base v l) (hsz : l.length + 1 ≤ 100000) (hbase : base ≤ w.heap.size) :
    ∃ v' w', (∀ ty, (Builtin.append_ #[22, 22] ty #[v, .slice (some ⟨w.heap.size, 0, none⟩) 1 1]).run Yba.prog (w.alloc (.cells #[.int .u8 b] 5)) = .ok v' w') ∧ Own w' base v' (l ++ [b]) ∧ Step w w' v v' := by
  obtain ⟨v', w', h1, h2, h3⟩ := append_own (w.alloc (.cells #[.int .u8 b] 5)) base v l [b] (some ⟨w.heap.size, 0, none⟩) 1 (hown.below ((Below.refl _ _).alloc (Nat.le_refl _) _)) (fun h => by cases h)
    (fun a ha j hj => by
      obtain rfl := Option.some.inj ha
      obtain rfl : j = 0 := by simpa using hj
      rw [Addr.add_lit]
      simp) (by simpa using hsz) (by simp; omega)
  exact ⟨v', w', h1, h2, (Step.alloc w v _).trans h3⟩
end Go.Proofs.Ybulkbtda
