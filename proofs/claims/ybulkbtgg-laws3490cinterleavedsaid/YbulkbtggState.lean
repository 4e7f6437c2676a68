import Derived.Test.YbulkbtggZero
namespace Go.Proofs.Ybulkbtgg
open Go.RowKit Plain

/-- The pointers to the first k rooms. -/
def ptr (p : Nat × Nat) : Value := .pointer (some ⟨p.1, p.2, none⟩)
def pl (D : Nat) (cs : List (Nat × Nat)) : Nat → List Value
  | 0 => []
  | k + 1 => pl D cs k ++ [ptr (rm D cs k)]
theorem pl_len (D : Nat) (cs : List (Nat × Nat)) : ∀ k, (pl D cs k).length = k
  | 0 => rfl
  | k + 1 => by simp [pl, pl_len D cs k]
theorem pl_get (D : Nat) (cs : List (Nat × Nat)) : ∀ k j, j < k → (pl D cs k)[j]? = some (ptr (rm D cs j))
  | 0, j => fun h => by omega
  | k + 1, j => fun h => by
    by_cases e : j < k
    · rw [pl, List.getElem?_append_left (by rw [pl_len]; exact e), pl_get D cs k j e]
    · obtain rfl : j = k := by omega
      rw [pl, List.getElem?_append_right (by rw [pl_len]; exact Nat.le_refl _), pl_len]; simp
theorem pl_ext (D : Nat) (cs es : List (Nat × Nat)) : ∀ k, k ≤ tot cs → pl D (cs ++ es) k = pl D cs k
  | 0 => fun _ => rfl
  | k + 1 => fun h => by rw [pl, pl, pl_ext D cs es k (by omega), rm_old D cs es k (by omega)]

/-- An own slice lies where it lay, where its own block has not turned. -/
theorem OwnV.of_block {E : TypeId} {w w' : World} {base : Nat} {v : Value} {l : List Value} (h : OwnV E w base v l) (hb : ∀ g, v.ownBlock = some g → w'.heap[g]? = w.heap[g]?) : OwnV E w' base v l := by
  refine ⟨h.1, ?_⟩
  rcases h.2 with h1 | ⟨g, cap, cur, hv, h1, h2, h3⟩
  · exact .inl h1
  · exact .inr ⟨g, cap, cur, hv, h1, (hb g (by rw [hv]; rfl)).trans h2, h3⟩

/-- The resultRows (its width not 0), k rows kept, and the pointers to the first q rooms. -/
structure Lv (w0 w : World) (R base wd k q : Nat) (cs : List (Nat × Nat)) (mv rv pv : Value) : Prop where
  rs : Rs w R base wd k cs mv rv
  ptr : OwnV 30 w base pv (pl (wd * 4) cs q)
  apart : ∀ b, pv.ownBlock = some b → mv.ownBlock ≠ some b
  below : Below w0.heap.size w0 w
  ge : w0.heap.size ≤ R

theorem Fr.below {R B : Nat} {w w' : World} {mv mv' : Value} (h : Fr R w w' mv mv') (hR : B ≤ R) (hB : B ≤ w.heap.size) (hm : ∀ b, mv.ownBlock = some b → B ≤ b) : Below B w w' :=
  ⟨h.os, h.tape, h.output, h.size, fun b hb => h.block b (by omega) (by omega) (fun e => by have := hm b e; omega)⟩

theorem Lv.fr {w0 w w' : World} {R base wd k k' q : Nat} {cs cs' : List (Nat × Nat)} {mv mv' rv rv' pv : Value} (h : Lv w0 w R base wd k q cs mv rv pv) (hrs : Rs w' R base wd k' cs' mv' rv') (hfr : Fr R w w' mv mv') (he : pl (wd * 4) cs' q = pl (wd * 4) cs q) :
    Lv w0 w' R base wd k' q cs' mv' rv' pv := by
  have hlt := World.ownsRow.lt h.ptr
  have hlm := World.ownsRow.lt h.rs.own
  refine ⟨hrs, ?_, fun b hb => ?_, h.below.trans (hfr.below h.ge h.below.size (fun b hb => by have := (hlm b hb).1; have := h.rs.rc.lt; have := h.ge; omega)), h.ge⟩
  · rw [he]
    exact h.ptr.of_block (fun g hg => hfr.block g (hlt g hg).2 (by have := (hlt g hg).1; have := h.rs.rc.lt; omega) (h.apart g hg))
  · rcases hfr.own with o | o
    · rw [o]; exact h.apart b hb
    · intro e; have := o b e; have := (hlt b hb).2; omega

/-- next: the room of row k, and the state behind it. -/
def MPost (w0 : World) (R base wd k : Nat) (pv : Value) (e : Ending) (w' : World) : Prop :=
  ∃ pre g s o mv rv, e = .returned (.slice (some ⟨g, o * (wd * 4), none⟩) wd wd) ∧ o < s ∧ k = tot pre + o ∧ Lv w0 w' R base wd k k (pre ++ [(g, s)]) mv rv pv
theorem next_lv {w0 w : World} {R base wd k : Nat} {cs : List (Nat × Nat)} {mv rv pv : Value} (hwd : 0 < wd ∧ wd < 8) (hk1 : k ≤ 1024) (h : Lv w0 w R base wd k k cs mv rv pv) :
    Calls Yba.prog 5 #[.pointer (some ⟨R, 0, none⟩)] w (MPost w0 R base wd k pv) := by
  refine (next_any w R base wd k cs mv rv hwd hk1 h.rs).mono ?_
  rintro e w' ⟨pre, g, s, o, cs', mv', rv', rfl, rfl, hk, ho, hcs, hrs, hfr⟩
  refine ⟨pre, g, s, o, mv', rv', rfl, ho, hk, h.fr hrs hfr ?_⟩
  rcases hcs with e | ⟨x, e, hk'⟩
  · rw [e]
  · rw [e]; exact pl_ext _ _ _ _ (by omega)

/-- ptrs = append(ptrs, &room[0]) -/
theorem push_lv {w0 w : World} {R base wd k : Nat} {pre : List (Nat × Nat)} {g s o : Nat} {mv rv pv : Value} (hk1 : k ≤ 1024) (ho : o < s) (hk : k = tot pre + o) (h : Lv w0 w R base wd k k (pre ++ [(g, s)]) mv rv pv) :
    ∃ v' w', (Builtin.append_ #[28, 28] 28 #[pv, .slice (some ⟨w.heap.size, 0, none⟩) 1 1]).run Yba.prog (w.alloc (.cells #[.pointer (some ⟨g, o * (wd * 4), none⟩)] 30)) = .ok v' w' ∧ Lv w0 w' R base wd k (k + 1) (pre ++ [(g, s)]) mv rv v' := by
  have hlt := World.ownsRow.lt h.ptr
  have hlm := World.ownsRow.lt h.rs.own
  obtain ⟨v', w', h1, h2, h3⟩ := append_p w base pv _ (some ⟨g, o * (wd * 4), none⟩) h.ptr (by rw [pl_len]; omega) h.rs.rc.size
  have hb : Below base w w' := h3.below h.rs.rc.size (fun b hb => (hlt b hb).1)
  refine ⟨v', w', h1, ⟨⟨h.rs.rc.below hb, h.rs.own.of_block (fun b hb' => h3.grown.block b (hlm b hb').2 (fun e => h.apart b e.symm hb')), h.rs.free, h.rs.pos⟩, ?_, fun b hb' => ?_, h.below.trans (hb.mono (by have := h.ge; have := h.rs.rc.lt; omega)), h.ge⟩⟩
  · rw [pl, hk, rm_at (wd * 4) pre [] g s o ho, ← hk]; exact h2
  · rcases h3.own with o' | o'
    · exact h.apart b (by rw [← o']; exact hb')
    · intro e; have := o' b hb'; have := (hlm b e).2; omega

def DPost (w0 : World) (R base wd k : Nat) (cs : List (Nat × Nat)) (mv pv : Value) (e : Ending) (w' : World) : Prop :=
  e = .returned (.tuple #[]) ∧ ∃ rv, Lv w0 w' R base wd (k + 1) (k + 1) cs mv rv pv
theorem add_lv {w0 w : World} {R base wd k : Nat} {pre : List (Nat × Nat)} {g s o : Nat} {mv rv pv : Value} (hwd : 0 < wd ∧ wd < 8) (hk1 : k ≤ 1024) (ho : o < s) (hk : k = tot pre + o) (h : Lv w0 w R base wd k (k + 1) (pre ++ [(g, s)]) mv rv pv) :
    Calls Yba.prog 6 #[.pointer (some ⟨R, 0, none⟩)] w (DPost w0 R base wd k (pre ++ [(g, s)]) mv pv) := by
  refine (add_any w R base wd k pre g s o mv rv hwd hk1 ho hk h.rs).mono ?_
  rintro e w' ⟨rfl, ⟨rv', hrs⟩, hfr⟩
  exact ⟨rfl, rv', h.fr hrs hfr rfl⟩

theorem Lv.later {w0 w w' : World} {R base wd k q : Nat} {cs : List (Nat × Nat)} {mv rv pv : Value} (h : Lv w0 w R base wd k q cs mv rv pv) (hb : Below w.heap.size w w') : Lv w0 w' R base wd k q cs mv rv pv :=
  ⟨h.rs.below hb, h.ptr.below hb, h.apart, past h.below hb, h.ge⟩

/-- rows' result, checked. -/
theorem check_lv {w0 w w' : World} {R base wd k : Nat} {cs : List (Nat × Nat)} {mv rv pv v : Value} (hwd : 0 < wd ∧ wd < 8) (hk1 : k ≤ 1024) (h : Lv w0 w R base wd k k cs mv rv pv) (hb : Below w.heap.size w w')
    (hv : (k = 0 ∧ v = .slice none 0 0) ∨ (0 < k ∧ ∃ B, v = .slice (some ⟨B, 0, none⟩) k k ∧ w'.rowIs B 24 k (rowv wd cs))) :
    Calls Yba.prog 7 #[v, .int .i64 (k : Int), .int .i64 (wd : Int), pv] w' (TruePost w') := by
  rcases hv with ⟨rfl, rfl⟩ | ⟨h0, B, rfl, hrow⟩
  · exact check_none w' wd pv
  · refine check_any w' k wd B (fun j => some ⟨(rm (wd * 4) cs j).1, (rm (wd * 4) cs j).2, none⟩) pv hwd.2 ⟨h0, hk1⟩ hrow (fun _ => ?_)
    have h' := (h.later hb).ptr
    obtain ⟨a, c, e⟩ := h'.form
    rw [pl_len] at e
    subst e
    obtain ⟨P, rfl, _⟩ := h'.cell 0 _ (pl_get _ _ k 0 h0)
    refine ⟨P, k, c, rfl, Nat.le_refl _, hk1, fun j hj => ⟨_, _, rfl, ?_⟩⟩
    obtain ⟨P', e, hc⟩ := h'.cell j _ (pl_get _ _ k j hj)
    simp at e
    subst e
    exact hc
theorem check_zero {k : Nat} {v : Value} {w' : World} (hk1 : k ≤ 1024) (hv : (k = 0 ∧ v = .slice none 0 0) ∨ (0 < k ∧ ∃ B, v = .slice (some ⟨B, 0, none⟩) k k ∧ w'.rowIs B 24 k (fun _ => .slice none 0 0))) (pv : Value) :
    Calls Yba.prog 7 #[v, .int .i64 (k : Int), .int .i64 ((0 : Nat) : Int), pv] w' (TruePost w') := by
  rcases hv with ⟨rfl, rfl⟩ | ⟨h0, B, rfl, hrow⟩
  · exact check_none w' 0 pv
  · exact check_any w' k 0 B (fun _ => none) pv (by omega) ⟨h0, hk1⟩ hrow (fun h => by omega)
/-- The beginning. -/
theorem Lv.start (w : World) (wd : Nat) : Lv w (w.alloc (.cells #[.int .i64 (wd : Int), .slice none 0 0, .slice none 0 0, .slice none 0 0, .int .i64 0] 27)) w.heap.size (w.heap.size + 1) wd 0 0 [] (.slice none 0 0) (.slice none 0 0) (.slice none 0 0) := by
  have hr := heap_alloc_new w (.cells #[.int .i64 (wd : Int), .slice none 0 0, .slice none 0 0, .slice none 0 0, .int .i64 0] 27)
  exact ⟨⟨⟨(cell_of_row _ _ 0 _ _ _ hr).trans rfl, (cell_of_row _ _ 1 _ _ _ hr).trans rfl, (cell_of_row _ _ 2 _ _ _ hr).trans rfl, (cell_of_row _ _ 3 _ _ _ hr).trans rfl, (cell_of_row _ _ 4 _ _ _ hr).trans rfl, fun j => frozen_of_row _ _ j _ _ hr, by omega, by simp⟩,
    OwnV.nil _ _ _, .inl ⟨rfl, rfl, rfl⟩, fun c hc => by simp at hc⟩, OwnV.nil _ _ _, fun b hb => by simp [Value.ownBlock] at hb, (Below.refl _ _).alloc (Nat.le_refl _) _, Nat.le_refl _⟩
end Go.Proofs.Ybulkbtgg
