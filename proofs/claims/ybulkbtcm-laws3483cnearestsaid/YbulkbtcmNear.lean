import Derived.Test.YbulkbtcmEdit
import Derived.Laws.IdiomStrings
import Derived.Laws.IdiomCopy
namespace Go.Proofs.Ybulkbtcm
open Go.RowKit Plain

/-! ### The runes of a string -/
def runeCells (s : ByteArray) : Array Value := Conv.runesFrom s s.size 0 #[]
def rn (s : ByteArray) : Nat := (runeCells s).size
def rf (s : ByteArray) (j : Nat) : Int := intOf ((runeCells s).getD j undef)

theorem runesFrom_ints (s : ByteArray) : ∀ (bound i : Nat) (acc : Array Value), (∀ v ∈ acc, ∃ z, v = .int .i32 z) → ∀ v ∈ Conv.runesFrom s bound i acc, ∃ z, v = .int .i32 z
  | 0, _, acc => fun h => by simpa [Conv.runesFrom] using h
  | bound + 1, i, acc => fun h => by
    unfold Conv.runesFrom
    split
    · refine runesFrom_ints s bound _ _ ?_
      intro v hv
      rcases Array.mem_push.1 hv with hv | hv
      · exact h v hv
      · exact ⟨_, hv⟩
    · exact h

theorem runeCells_at (s : ByteArray) (j : Nat) (hj : j < rn s) : (runeCells s)[j]? = some (.int .i32 (rf s j)) := by
  have hj' : j < (runeCells s).size := hj
  have e : (runeCells s)[j]? = some (runeCells s)[j] := Array.getElem?_eq_getElem hj'
  obtain ⟨z, hz⟩ := runesFrom_ints s s.size 0 #[] (by simp) _ (Array.getElem_mem hj')
  have hz' : (runeCells s)[j] = .int .i32 z := hz
  rw [e, hz']
  simp [rf, hj', hz', intOf]

theorem rn_le (s : ByteArray) : rn s ≤ s.size := by
  have := size_runesFrom s s.size 0 #[]
  simpa [rn, runeCells] using this

/-- '[]rune(s)': a new slice of the string's runes. -/
theorem conv_runes (w : World) (s : ByteArray) (hs : s.size ≤ 256) :
    ∃ c w', (convert 9 22 (.string s)).run Yba.prog w = .ok (.slice (some ⟨w.heap.size, 0, none⟩) (rn s) c) w' ∧ Runes w' (some ⟨w.heap.size, 0, none⟩) (rn s) (rf s) ∧ Below w.heap.size w w' := by
  have hle := rn_le s
  refine ⟨_, _, run_runes_of_string (P := Yba.prog) w 9 22 21 s Yba.underlying9 Yba.underlying22 Yba.underlying21 (by have : (Conv.runesFrom s s.size 0 #[]).size ≤ s.size := hle; omega), ?_, (Below.refl _ _).drew.alloc (Nat.le_refl _) _⟩
  refine ⟨w.heap.size, 0, fun _ => rfl, fun j hj => ?_⟩
  have := World.cell?_alloc_mark w.drew (Conv.runesFrom s s.size 0 #[] ++ Array.replicate (grownCap w (Conv.runesFrom s s.size 0 #[]).size 0 21 - (Conv.runesFrom s s.size 0 #[]).size) (.int .i32 0)) 21 (0, 0) j
  rw [Nat.zero_add]
  refine Eq.trans this ?_
  show (runeCells s ++ _)[j]? = _
  rw [Array.getElem?_append_left hj]
  exact runeCells_at s j hj

/-! ### The plain search -/
/-- What the search has found among the first k candidates: the best so far, and its distance (3: none). -/
def nst (d : Nat → Int) (c : Nat → ByteArray) : Nat → ByteArray × Int
  | 0 => (ByteArray.empty, 3)
  | k + 1 => if d k < (nst d c k).2 ∨ (d k = (nst d c k).2 ∧ Op.bytesLess (c k).toList (nst d c k).1.toList = true) then (c k, d k) else nst d c k

theorem nst_bd {d : Nat → Int} {c : Nat → ByteArray} (hd : ∀ k, 0 ≤ d k) : ∀ k, 0 ≤ (nst d c k).2 ∧ (nst d c k).2 ≤ 3
  | 0 => by simp [nst]
  | k + 1 => by
    have ih := nst_bd (c := c) hd k
    have := hd k
    unfold nst
    split
    · rename_i h
      dsimp only
      rcases h with h | ⟨h, _⟩ <;> omega
    · exact ih

theorem less_empty (l : List UInt8) : Op.bytesLess l [] = false := by cases l <;> rfl

theorem nst_none {d : Nat → Int} {c : Nat → ByteArray} (hd : ∀ k, 0 ≤ d k) : ∀ k, (nst d c k).2 = 3 → (nst d c k).1 = ByteArray.empty
  | 0 => fun _ => rfl
  | k + 1 => by
    have ih := nst_none (c := c) hd k
    have hb := nst_bd (c := c) hd k
    unfold nst
    split
    · rename_i h
      dsimp only
      intro h3
      rcases h with h | ⟨h, h'⟩
      · omega
      · have e := ih (by omega)
        rw [e] at h'
        simp [ByteArray.toList_empty, less_empty] at h'
    · exact ih

/-- The distance of candidate k. -/
def dst (name : ByteArray) (c : Nat → ByteArray) (k : Nat) : Int := (D (rf name) (rf (c k)) (rn name) (rn (c k)) : Nat)
theorem dst_nonneg (name : ByteArray) (c : Nat → ByteArray) (k : Nat) : 0 ≤ dst name c k := by unfold dst; omega

theorem nst_take {d : Nat → Int} {c : Nat → ByteArray} {k : Nat} {b : ByteArray} {bd : Int} (h : nst d c k = (b, bd)) (hu : d k < bd ∨ (d k = bd ∧ Op.bytesLess (c k).toList b.toList = true)) : nst d c (k + 1) = (c k, d k) := by
  have : nst d c (k + 1) = if d k < (nst d c k).2 ∨ (d k = (nst d c k).2 ∧ Op.bytesLess (c k).toList (nst d c k).1.toList = true) then (c k, d k) else nst d c k := rfl
  rw [this, h, if_pos hu]
theorem nst_keep {d : Nat → Int} {c : Nat → ByteArray} {k : Nat} {b : ByteArray} {bd : Int} (h : nst d c k = (b, bd)) (h1 : ¬ d k < bd) (h2 : d k = bd → Op.bytesLess (c k).toList b.toList = false) : nst d c (k + 1) = (b, bd) := by
  have : nst d c (k + 1) = if d k < (nst d c k).2 ∨ (d k = (nst d c k).2 ∧ Op.bytesLess (c k).toList (nst d c k).1.toList = true) then (c k, d k) else nst d c k := rfl
  rw [this, h, if_neg]
  rintro (q | ⟨q, q'⟩)
  · exact h1 q
  · rw [h2 q] at q'; cases q'

/-! ### Nearest -/
def NearPost (name : ByteArray) (c : Nat → ByteArray) (N : Nat) (w : World) (e : Ending) (w' : World) : Prop :=
  e = .returned (.tuple #[.string (nst (dst name c) c N).1, .bool (decide ((nst (dst name c) c N).2 ≤ 2))]) ∧ Below w.heap.size w w'

/-- The slice with address 'ao' and length N reads as the strings c 0, c 1, .. -/
def Strs (w : World) (ao : Option Addr) (N : Nat) (c : Nat → ByteArray) : Prop :=
  ∃ b off, (0 < N → ao = some ⟨b, off, none⟩) ∧ ∀ j, j < N → w.cell? ⟨b, off + j, none⟩ = some (.string (c j))

set_option maxHeartbeats 1000000 in
theorem near_any (name : ByteArray) (ao : Option Addr) (N cap : Nat) (c : Nat → ByteArray) (w : World) (hN : N ≤ 256) (hname : name.size ≤ 256) (hc : ∀ j, j < N → (c j).size ≤ 256) (hs : Strs w ao N c) :
    Calls Yba.prog 9 #[.string name, .slice ao N cap] w (NearPost name c N w) := by
  obtain ⟨c1, w1, hcv, hr1, hb1⟩ := conv_runes w name hname
  go_enter Yba.func9, Yba.ntmps9
  go_wp2
  clear hcv
  go_loopg [7, 8, 16] N (fun g vb vd vi wr => ∃ (k : Nat) (b : ByteArray) (bd : Int), k ≤ N ∧ g = N - k ∧ vb = .string b ∧ vd = .int .i64 bd ∧ vi = .int .i64 k ∧ nst (dst name c) c k = (b, bd) ∧ Below w.heap.size w wr ∧ Runes wr (some ⟨w.heap.size, 0, none⟩) (rn name) (rf name))
  case atStart => exact ⟨0, _, _, Nat.zero_le _, rfl, rfl, rfl, rfl, rfl, hb1, hr1⟩
  case round =>
    obtain ⟨k, b, bd, hk, rfl, rfl, rfl, rfl, hnst, hB, hR⟩ := hrel
    clear hb1 hr1
    have bb := nst_bd (c := c) (dst_nonneg name c) k
    rw [hnst] at bb
    dsimp only at bb
    by_cases hlt : k < N
    · obtain ⟨b1, o1, ha1, hc1⟩ := hs
      obtain rfl := ha1 (by omega)
      have k1 : wr.cell? ⟨b1, o1 + k, none⟩ = some (.string (c k)) := by
        rw [hB.cell (p := ⟨b1, o1 + k, none⟩) (World.block_lt_of_cell? _ _ (hc1 k hlt))]; exact hc1 k hlt
      obtain ⟨c2, w2, hcv2, hr2, hb2⟩ := conv_runes wr (c k) (hc k hlt)
      clear hc1 ha1
      have HN : Hid (nst (dst name c) c k = (b, bd)) := hnst
      clear hnst
      have hn1 := rn_le name
      have hn2 := rn_le (c k)
      have hsz := hc k hlt
      go_wp2_with fail
      refine (edit_any _ _ (rn name) (rn (c k)) _ _ (bd + 1) (rf name) (rf (c k)) w2 (by omega) (by omega) (by exact WalkArith.wf_i64 (by omega)) (hR.later hb2) hr2).mono ?_
      rintro e w3 ⟨rfl, hb3⟩
      have hB' : Below w.heap.size w w3 := hB.trans ((past hb2 hb3).mono hB.size)
      have hR' := (hR.later hb2).later hb3
      clear hcv2 hr2 hb2 hb3 hR hB k1
      have hd0 := dst_nonneg name c k
      obtain ⟨G, hG⟩ : ∃ G : Int, G = (if bd + 1 < dst name c k then bd + 1 else dst name c k) := ⟨_, rfl⟩
      have hG' : (if bd + 1 < ((D (rf name) (rf (c k)) (rn name) (rn (c k)) : Nat) : Int) then bd + 1 else ((D (rf name) (rf (c k)) (rn name) (rn (c k)) : Nat) : Int)) = G := hG.symm
      rw [hG']
      clear hG'
      have g1 : G < bd ↔ dst name c k < bd := by rw [hG]; split <;> omega
      have g2 : G = bd ↔ dst name c k = bd := by rw [hG]; split <;> omega
      have g3 : G ≤ bd → G = dst name c k := by rw [hG]; split <;> omega
      have HG : Hid ((G < bd ↔ dst name c k < bd) ∧ (G = bd ↔ dst name c k = bd) ∧ (G ≤ bd → G = dst name c k)) := ⟨g1, g2, g3⟩
      clear g1 g2 g3 hG hd0 hn1 hn2 hsz
      by_cases t1 : G < bd
      · obtain ⟨g1, g2, g3⟩ := HG.out
        have HS : Hid (nst (dst name c) c (k + 1) = (c k, G)) := by rw [g3 (by omega)]; exact nst_take HN.out (.inl (g1.1 t1))
        clear g1 g2 g3 HG
        go_wp2
        go_roundg (N - (k + 1))
        case measure => omega
        case rel => exact ⟨k + 1, c k, G, by omega, rfl, rfl, rfl, by go_num, HS.out, hB', hR'⟩
      · by_cases t2 : G = bd
        · subst t2
          have t3 : (G == G) = true := by simp
          cases t4 : Op.bytesLess (c k).toList b.toList with
          | true =>
            obtain ⟨g1, g2, g3⟩ := HG.out
            have HS : Hid (nst (dst name c) c (k + 1) = (c k, G)) := by
              have := nst_take HN.out (.inr ⟨g2.1 rfl, t4⟩)
              rw [this, ← g3 (Int.le_refl _)]
              exact rfl
            clear g1 g2 g3 HG
            go_wp2
            go_roundg (N - (k + 1))
            case measure => omega
            case rel => exact ⟨k + 1, c k, G, by omega, rfl, rfl, rfl, by go_num, HS.out, hB', hR'⟩
          | false =>
            obtain ⟨g1, g2, g3⟩ := HG.out
            have HS : Hid (nst (dst name c) c (k + 1) = (b, G)) := nst_keep HN.out (fun h => t1 (g1.2 h)) (fun _ => t4)
            clear g1 g2 g3 HG
            go_wp2
            go_roundg (N - (k + 1))
            case measure => omega
            case rel => exact ⟨k + 1, b, G, by omega, rfl, rfl, rfl, by go_num, HS.out, hB', hR'⟩
        · obtain ⟨g1, g2, g3⟩ := HG.out
          have HS : Hid (nst (dst name c) c (k + 1) = (b, bd)) := nst_keep HN.out (fun h => t1 (g1.2 h)) (fun h => absurd (g2.2 h) t2)
          have t3 : (G == bd) = false := by simpa using t2
          clear g1 g2 g3 HG t2
          go_wp2
          go_roundg (N - (k + 1))
          case measure => omega
          case rel => exact ⟨k + 1, b, bd, by omega, rfl, rfl, rfl, by go_num, HS.out, hB', hR'⟩
    · obtain rfl : k = N := by omega
      have HN : Hid (nst (dst name c) c k = (b, bd)) := hnst
      clear hnst
      go_wp2
      go_ret2
      refine ⟨?_, hB⟩
      rw [HN.out]
      rfl
end Go.Proofs.Ybulkbtcm
