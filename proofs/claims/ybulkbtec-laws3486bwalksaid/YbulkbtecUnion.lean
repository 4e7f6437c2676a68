import Derived.Test.YbulkbtecYield
namespace Go.Proofs.Ybulkbtec
open Go.RowKit Plain

/-- The count of host k: x at its rank; 0 where it is not named. -/
def ek (b : Nat → Bool) (x : Nat → Int) (k : Nat) : Int := if b k then x (rank b k) else 0
def ent (b c : Nat → Bool) (xs xt : Nat → Int) (k : Nat) : ByteArray × Int × Int := (nm k, ek b xs k, ek c xt k)
/-- What union is to yield, of the hosts below K. -/
def expL (b c : Nat → Bool) (xs xt : Nat → Int) : Nat → List (ByteArray × Int × Int)
  | 0 => []
  | k + 1 => if b k || c k then expL b c xs xt k ++ [ent b c xs xt k] else expL b c xs xt k
theorem expL_yes {b c : Nat → Bool} {xs xt : Nat → Int} {k : Nat} (h : (b k || c k) = true) : expL b c xs xt (k + 1) = expL b c xs xt k ++ [ent b c xs xt k] := by show (if _ then _ else _) = _; rw [if_pos h]
theorem expL_no {b c : Nat → Bool} {xs xt : Nat → Int} {k : Nat} (h : (b k || c k) = false) : expL b c xs xt (k + 1) = expL b c xs xt k := by show (if _ then _ else _) = _; rw [if_neg (by simp [h])]
theorem expL_same {b c : Nat → Bool} {xs xt : Nat → Int} {K : Nat} : ∀ m, K ≤ m → (∀ k, K ≤ k → k < m → b k = false) → (∀ k, K ≤ k → k < m → c k = false) → expL b c xs xt m = expL b c xs xt K
  | 0 => fun h _ _ => by rw [show K = 0 by omega]
  | m + 1 => fun h hb hc => by
    by_cases e : K = m + 1
    · rw [e]
    · rw [expL_no (by rw [hb m (by omega) (by omega), hc m (by omega) (by omega)]; rfl), expL_same m (by omega) (fun k h1 h2 => hb k h1 (by omega)) (fun k h1 h2 => hc k h1 (by omega))]
theorem expL_len (b c : Nat → Bool) (xs xt : Nat → Int) : ∀ k, (expL b c xs xt k).length ≤ k
  | 0 => by simp [expL]
  | k + 1 => by
    have ih := expL_len b c xs xt k
    cases h : (b k || c k) with
    | true => rw [expL_yes h, List.length_append]; simp; omega
    | false => rw [expL_no h]; omega
theorem expL_prefix (b c : Nat → Bool) (xs xt : Nat → Int) {k : Nat} : ∀ m, k ≤ m → expL b c xs xt k <+: expL b c xs xt m
  | 0 => fun h => by rw [show k = 0 by omega]; exact List.prefix_refl _
  | m + 1 => fun h => by
    by_cases e : k = m + 1
    · rw [e]; exact List.prefix_refl _
    · refine (expL_prefix b c xs xt m (by omega)).trans ?_
      cases hh : (b m || c m) with
      | true => rw [expL_yes hh]; exact List.prefix_append _ _
      | false => rw [expL_no hh]; exact List.prefix_refl _

/-- The log at the end: all, or the first 'stop'. -/
def Fin (E : List (ByteArray × Int × Int)) (stop : Int) (L : List (ByteArray × Int × Int)) : Prop :=
  (L = E ∧ (stop ≤ 0 ∨ (L.length : Int) < stop)) ∨ (0 < stop ∧ (L.length : Int) = stop ∧ L <+: E)

/-- What union's function finds in memory. -/
structure Ctx (V0 w : World) (b1 b2 base Bc Bl : Nat) (t1 t2 : ByteArray) (v1 v2 c1 c2 : Value) (b c : Nat → Bool) (xs xt : Nat → Int) : Prop where
  h1 : Hosts V0 t1 v1 b
  h2 : Hosts V0 t2 v2 c
  u1 : U64s V0 c1 (rank b 10) xs
  u2 : U64s V0 c2 (rank c 10) xt
  p0 : w.cell? ⟨b1, 0, none⟩ = some (.string t1)
  p1 : w.cell? ⟨b1, 1, none⟩ = some (.int .i64 0)
  p2 : w.cell? ⟨b1, 2, none⟩ = some v1
  p3 : w.cell? ⟨b1, 3, none⟩ = some c1
  q0 : w.cell? ⟨b2, 0, none⟩ = some (.string t2)
  q1 : w.cell? ⟨b2, 1, none⟩ = some (.int .i64 0)
  q2 : w.cell? ⟨b2, 2, none⟩ = some v2
  q3 : w.cell? ⟨b2, 3, none⟩ = some c2
  n1 : b1 < base ∧ b1 ≠ Bc ∧ b1 ≠ Bl
  n2 : b2 < base ∧ b2 ≠ Bc ∧ b2 ≠ Bl
  m : V0.heap.size ≤ Bc ∧ V0.heap.size ≤ Bl ∧ V0.heap.size ≤ base
  below : Below V0.heap.size V0 w
theorem Kp.cell {base Bc Bl : Nat} {w w' : World} (h : Kp base Bc Bl w w') {k j : Nat} {v : Value} (hk : k < base ∧ k ≠ Bc ∧ k ≠ Bl) (hc : w.cell? ⟨k, j, none⟩ = some v) : w'.cell? ⟨k, j, none⟩ = some v :=
  (World.cell?_of_block (w := w) (a := ⟨k, j, none⟩) (h.block k hk.1 hk.2.1 hk.2.2)).trans hc
theorem Ctx.kp {V0 w w' : World} {b1 b2 base Bc Bl : Nat} {t1 t2 : ByteArray} {v1 v2 c1 c2 : Value} {b c : Nat → Bool} {xs xt : Nat → Int} (h : Ctx V0 w b1 b2 base Bc Bl t1 t2 v1 v2 c1 c2 b c xs xt) (k : Kp base Bc Bl w w') :
    Ctx V0 w' b1 b2 base Bc Bl t1 t2 v1 v2 c1 c2 b c xs xt :=
  ⟨h.h1, h.h2, h.u1, h.u2, k.cell h.n1 h.p0, k.cell h.n1 h.p1, k.cell h.n1 h.p2, k.cell h.n1 h.p3, k.cell h.n2 h.q0, k.cell h.n2 h.q1, k.cell h.n2 h.q2, k.cell h.n2 h.q3, h.n1, h.n2, h.m,
   h.below.trans ⟨k.os, k.tape, k.output, k.size, fun i hi => k.block i (by have := h.m; omega) (by have := h.m; omega) (by have := h.m; omega)⟩⟩
theorem Lst.later {w w' : World} {base Bc Bl Bs : Nat} {stop : Int} {L : List (ByteArray × Int × Int)} {v : Value} (h : Lst w base Bc Bl Bs stop L v) (hb : Below w.heap.size w w') : Lst w' base Bc Bl Bs stop L v := by
  have hc := World.block_lt_of_cell? _ _ h.c
  have hl := World.block_lt_of_cell? _ _ h.l
  have hs := World.block_lt_of_cell? _ _ h.s
  exact ⟨(hb.cell hc).trans h.c, (hb.frozen hc).trans h.fc, (hb.cell hl).trans h.l, (hb.frozen hl).trans h.fl, (hb.cell hs).trans h.s, h.own.below hb, Nat.le_trans h.size hb.size⟩

def UPost (E : List (ByteArray × Int × Int)) (base Bc Bl Bs : Nat) (stop : Int) (w : World) (e : Ending) (w' : World) : Prop :=
  e = .returned (.tuple #[]) ∧ (∃ L v, Fin E stop L ∧ Lst w' base Bc Bl Bs stop L v) ∧ Kp base Bc Bl w w'

end Go.Proofs.Ybulkbtec
