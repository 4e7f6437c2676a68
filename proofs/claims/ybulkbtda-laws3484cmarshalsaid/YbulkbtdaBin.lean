import Derived.Test.YbulkbtdaBase
import Derived.RegionTactic
namespace Go.Proofs.Ybulkbtda
open Go.RowKit

def RetPost (v : Value) (w : World) (e : Ending) (w' : World) : Prop := e = .returned v ∧ Below w.heap.size w w'

set_option maxHeartbeats 1000000 in
theorem period_any (y mo we d h mi s n : Int) (w : World) :
    Calls Yba.prog 7 #[.int .i64 y, .int .i64 mo, .int .i64 we, .int .i64 d, .int .i64 h, .int .i64 mi, .int .i64 s, .int .i32 n] w (RetPost (.agg #[.int .i64 y, .int .i64 mo, .int .i64 we, .int .i64 d, .int .i64 h, .int .i64 mi, .int .i64 s, .int .i32 n]) w) := by
  go_enter Yba.func7, Yba.ntmps7
  go_wp2
  exact bodyPost_ret (v := .agg #[.int .i64 y, .int .i64 mo, .int .i64 we, .int .i64 d, .int .i64 h, .int .i64 mi, .int .i64 s, .int .i32 n]) (by simp [results, Yba.results7, go_sem]) rfl ⟨rfl, (Below.refl _ _).alloc (Nat.le_refl _) _⟩

theorem setRow_last (w : World) (c c' : Array Value) (t : TypeId) (g : Nat) (hg : g = w.heap.size) : (w.alloc (.cells c t)).setRow g c' = w.alloc (.cells c' t) := by
  subst hg
  have hm : ∀ (a : Array Obj) (x : Obj) (f : Obj → Obj), (a.push x).modify a.size f = a.push (f x) := by
    intro a x f
    apply Array.ext
    · simp
    · intro i h1 h2
      simp only [Array.getElem_modify, Array.getElem_push]
      by_cases h : a.size = i
      · subst h
        simp
      · have hi : i < a.size := by simp at h1; omega
        simp [h, hi]
  unfold World.setRow
  show ({ w.alloc (.cells c t) with heap := (w.heap.push (.cells c t)).modify w.heap.size _ } : World) = _
  rw [hm]
  rfl

theorem copy_fields (y mo we d h mi s n : Int) (w : World) (ty : TypeId) :
    (Builtin.copy_ #[44, 44] ty #[.slice (some ⟨w.heap.size + 1 + 1, 0, none⟩) 8 8, .slice (some ⟨w.heap.size, 0, none⟩) 7 7]).run Yba.prog
      (((w.alloc (.cells #[.int .i64 y, .int .i64 mo, .int .i64 we, .int .i64 d, .int .i64 h, .int .i64 mi, .int .i64 s, .int .i32 n] 28)).alloc (.cells #[.int .i64 0, .int .i64 0, .int .i64 0, .int .i64 0, .int .i64 0, .int .i64 0, .int .i64 0, .int .i64 0] 34)).alloc (.cells #[.int .i64 0, .int .i64 0, .int .i64 0, .int .i64 0, .int .i64 0, .int .i64 0, .int .i64 0, .int .i64 0] 34)).drew =
    .ok (.int .i64 7) (((w.alloc (.cells #[.int .i64 y, .int .i64 mo, .int .i64 we, .int .i64 d, .int .i64 h, .int .i64 mi, .int .i64 s, .int .i32 n] 28)).alloc (.cells #[.int .i64 0, .int .i64 0, .int .i64 0, .int .i64 0, .int .i64 0, .int .i64 0, .int .i64 0, .int .i64 0] 34)).alloc (.cells #[.int .i64 y, .int .i64 mo, .int .i64 we, .int .i64 d, .int .i64 h, .int .i64 mi, .int .i64 s, .int .i64 0] 34)).drew := by
  have hsz : (Yba.prog.info? 2).map (·.size) = some 1 := by kernel_rfl
  have hs2 : ((w.alloc (.cells #[.int .i64 y, .int .i64 mo, .int .i64 we, .int .i64 d, .int .i64 h, .int .i64 mi, .int .i64 s, .int .i32 n] 28)).alloc (.cells #[.int .i64 0, .int .i64 0, .int .i64 0, .int .i64 0, .int .i64 0, .int .i64 0, .int .i64 0, .int .i64 0] 34)).heap.size = w.heap.size + 1 + 1 := by simp
  have key := run_copy_row (P := Yba.prog) (((w.alloc (.cells #[.int .i64 y, .int .i64 mo, .int .i64 we, .int .i64 d, .int .i64 h, .int .i64 mi, .int .i64 s, .int .i32 n] 28)).alloc (.cells #[.int .i64 0, .int .i64 0, .int .i64 0, .int .i64 0, .int .i64 0, .int .i64 0, .int .i64 0, .int .i64 0] 34)).alloc (.cells #[.int .i64 0, .int .i64 0, .int .i64 0, .int .i64 0, .int .i64 0, .int .i64 0, .int .i64 0, .int .i64 0] 34)).drew 44 44 ty 2 (w.heap.size + 1 + 1) 0 8 8 ⟨w.heap.size, 0, none⟩ 7 7 #[.int .i64 0, .int .i64 0, .int .i64 0, .int .i64 0, .int .i64 0, .int .i64 0, .int .i64 0, .int .i64 0] 34 [.int .i64 y, .int .i64 mo, .int .i64 we, .int .i64 d, .int .i64 h, .int .i64 mi, .int .i64 s] Yba.underlying44 hsz
    (by rw [← hs2]; exact heap_alloc_new _ _) (by rfl) (fun j v hj => by
      have hjN : j < 7 := (List.getElem?_eq_some_iff.1 hj).1
      rw [Addr.add_lit, Nat.zero_add]
      match j, hjN with
      | 0, _ => simpa [go_sem] using hj
      | 1, _ => simpa [go_sem] using hj
      | 2, _ => simpa [go_sem] using hj
      | 3, _ => simpa [go_sem] using hj
      | 4, _ => simpa [go_sem] using hj
      | 5, _ => simpa [go_sem] using hj
      | 6, _ => simpa [go_sem] using hj) (by simp) (by
      intro v hv
      simp at hv
      rcases hv with rfl | rfl | rfl | rfl | rfl | rfl | rfl <;> rfl)
  rw [key]
  have e := setRow_last ((w.alloc (.cells #[.int .i64 y, .int .i64 mo, .int .i64 we, .int .i64 d, .int .i64 h, .int .i64 mi, .int .i64 s, .int .i32 n] 28)).alloc (.cells #[.int .i64 0, .int .i64 0, .int .i64 0, .int .i64 0, .int .i64 0, .int .i64 0, .int .i64 0, .int .i64 0] 34)) #[.int .i64 0, .int .i64 0, .int .i64 0, .int .i64 0, .int .i64 0, .int .i64 0, .int .i64 0, .int .i64 0] #[.int .i64 y, .int .i64 mo, .int .i64 we, .int .i64 d, .int .i64 h, .int .i64 mi, .int .i64 s, .int .i64 0] 34 (w.heap.size + 1 + 1) hs2.symm
  exact congrArg (fun W : World => Result.ok (Value.int .i64 7) W.drew) e

set_option maxHeartbeats 1000000 in
theorem fields_any (y mo we d h mi s n : Int) (hn : -2147483648 ≤ n ∧ n ≤ 2147483647) (w : World) :
    Calls Yba.prog 13 #[.agg #[.int .i64 y, .int .i64 mo, .int .i64 we, .int .i64 d, .int .i64 h, .int .i64 mi, .int .i64 s, .int .i32 n]] w (RetPost (.agg #[.int .i64 y, .int .i64 mo, .int .i64 we, .int .i64 d, .int .i64 h, .int .i64 mi, .int .i64 s, .int .i64 n]) w) := by
  go_enter Yba.func13, Yba.ntmps13
  go_wp2
  have hcp := copy_fields y mo we d h mi s n w
  go_big_region
  all_goals go_wp2
  exact bodyPost_ret (v := .agg #[.int .i64 y, .int .i64 mo, .int .i64 we, .int .i64 d, .int .i64 h, .int .i64 mi, .int .i64 s, .int .i64 n]) (by simp [results, Yba.results13, go_sem]) rfl ⟨rfl, ((((Below.refl _ _).alloc (Nat.le_refl _) _).alloc (by simp) _).alloc (by simp; omega) _).drew⟩
end Go.Proofs.Ybulkbtda
