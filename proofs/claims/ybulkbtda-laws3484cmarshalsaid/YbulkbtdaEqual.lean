import Derived.Test.YbulkbtdaOwn
import Derived.Laws.IdiomStrings
namespace Go.Proofs.Ybulkbtda
open Go.RowKit

def strOf (l : List Int) : ByteArray := l.foldl (fun r n => r.push (UInt8.ofNat n.toNat)) ByteArray.empty

theorem conv_str (w : World) (ao : Option Addr) (l : List Int) (c : Nat) (hnone : ao = none → l = []) (hs : Src w ao l) : (convert 22 9 (.slice ao l.length c)).run Yba.prog w = .ok (.string (strOf l)) w := by
  rw [run_convert_bytes_string (P := Yba.prog) w 22 9 5 ao l.length c Yba.underlying22 Yba.underlying5 Yba.underlying9]
  cases ao with
  | none =>
    rw [hnone rfl]
    simp [Conv.bytesToString, strOf]
  | some a =>
    have hl := run_loadCells_list (P := Yba.prog) w a (l.map (Value.int .u8)) (fun j v hj => by
      have hj' : j < l.length := by
        have := (List.getElem?_eq_some_iff.1 hj).1
        simpa using this
      rw [hs a rfl j hj', ← hj]
      simp [List.getD, hj'])
    simp only [List.length_map] at hl
    exact run_bytesToString w a l.length c l hl

/-- A slice that reads as the bytes l. -/
def Reads (w : World) (v : Value) (l : List Int) : Prop := ∃ ao c, v = .slice ao l.length c ∧ (ao = none → l = []) ∧ Src w ao l

theorem Own.reads {w : World} {base : Nat} {v : Value} {l : List Int} (h : Own w base v l) : Reads w v l := by
  rcases h with ⟨rfl, rfl⟩ | ⟨g, cap, cur, t, rfl, hb, hg, hlc, hcm, hcs, htk⟩
  · exact ⟨none, 0, rfl, fun _ => rfl, fun a ha => by cases ha⟩
  · refine ⟨_, cap, rfl, (fun h => by cases h), fun a ha j hj => ?_⟩
    obtain rfl := Option.some.inj ha
    have h : Own w base (.slice (some ⟨g, 0, none⟩) l.length cap) l := .inr ⟨g, cap, cur, t, rfl, hb, hg, hlc, hcm, hcs, htk⟩
    rw [Addr.add_lit, Nat.zero_add]
    exact h.cell.2.2 j hj

def EqPost (w : World) (e : Ending) (w' : World) : Prop := e = .returned (.bool true) ∧ w = w'

set_option maxHeartbeats 400000 in
theorem equal_any (w : World) (v v' : Value) (l : List Int) (h : Reads w v l) (h' : Reads w v' l) : Calls Yba.prog 10 #[v, v'] w (EqPost w) := by
  obtain ⟨ao, c, rfl, hn, hs⟩ := h
  obtain ⟨ao', c', rfl, hn', hs'⟩ := h'
  have k1 := conv_str w ao l c hn hs
  have k2 := conv_str w ao' l c' hn' hs'
  clear hn hs hn' hs'
  obtain ⟨S, hS⟩ : ∃ S, strOf l = S := ⟨_, rfl⟩
  rw [hS] at k1 k2
  clear hS
  go_enter Yba.func10, Yba.ntmps10
  go_wp2
  go_ret
  exact ⟨by simp, rfl⟩
end Go.Proofs.Ybulkbtda
