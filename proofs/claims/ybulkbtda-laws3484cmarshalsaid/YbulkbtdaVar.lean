import Derived.Test.YbulkbtdaOwn
namespace Go.Proofs.Ybulkbtda
open Go.RowKit

/-- A byte with more behind it. -/
def ob (x : Int) : Int := bits BinOp.or IntKind.u8 (x % 256) 128
/-- The base-128 form of x. -/
def uvl : Nat → Int → List Int
  | 0, x => [x]
  | f + 1, x => if 128 ≤ x then ob x :: uvl f (x / 128) else [x]

theorem uvl_len : ∀ (f : Nat) (x : Int), (uvl f x).length ≤ f + 1
  | 0, _ => by simp [uvl]
  | f + 1, x => by
    unfold uvl
    split
    · have := uvl_len f (x / 128); simp; omega
    · simp
theorem uvl_last (f : Nat) {x : Int} (h : ¬ 128 ≤ x) : uvl f x = [x] := by
  cases f with
  | zero => rfl
  | succ f => unfold uvl; rw [if_neg h]
theorem uvl_more (f : Nat) {x : Int} (h : 128 ≤ x) : uvl (f + 1) x = ob x :: uvl f (x / 128) := by
  show (if 128 ≤ x then _ else _) = _
  rw [if_pos h]

theorem div128 {x : Int} {k : Nat} (h : x < 128 ^ (k + 1)) : x / 128 < 128 ^ k := by
  rw [Int.pow_succ] at h
  exact Int.ediv_lt_of_lt_mul (by omega) h

/-- What an appending function leaves: the bytes 'add' behind the old ones. -/
def AppPost (base : Nat) (w : World) (v : Value) (l : List Int) (e : Ending) (w' : World) : Prop :=
  ∃ v', e = .returned v' ∧ Own w' base v' l ∧ Step w w' v v'

set_option maxHeartbeats 400000 in
theorem uv_any (base : Nat) (v : Value) (l : List Int) (x : Int) (w : World) (h0 : 0 ≤ x) (h1 : x ≤ 18446744073709551615) (hown : Own w base v l) (hsz : l.length ≤ 50000) (hbase : base ≤ w.heap.size) :
    Calls Yba.prog 15 #[v, .int .u64 x] w (AppPost base w v (l ++ uvl 10 x)) := by
  have hu := uvl_len 10 x
  go_enter Yba.func15, Yba.ntmps15
  go_wp2
  go_loopg [0, 1] 10 (fun g vv vx wr => ∃ (v' : Value) (l' : List Int) (x' : Int), vv = v' ∧ vx = .int .u64 x' ∧ 0 ≤ x' ∧ x' ≤ 18446744073709551615 ∧ Hid (x' < 128 ^ (g + 1)) ∧ Hid (l' ++ uvl g x' = l ++ uvl 10 x) ∧ Own wr base v' l' ∧ Step w wr v v')
  case atStart => exact ⟨v, l, x, rfl, rfl, h0, h1, by show x < 128 ^ 11; omega, rfl, hown, Step.refl _ _⟩
  case round =>
    obtain ⟨v', l', x', rfl, rfl, h0', h1', HX, HL, hown', hst⟩ := hrel
    have hbase' : base ≤ wr.heap.size := Nat.le_trans hbase hst.grown.size
    have hlen : l'.length ≤ 60000 := by have := congrArg List.length HL.out; simp at this; omega
    by_cases h2 : 128 ≤ x'
    · obtain ⟨v2, w2, hap, ho2, hs2⟩ := append_one wr base u0 l' (bits BinOp.or IntKind.u8 (x' % 256) 128) hown' (by omega) hbase'
      have hs3 := hst.trans hs2
      clear hu hown hown' hst hs2
      cases gk with
      | zero => exact absurd HX.out (by show ¬ x' < 128 ^ 1; omega)
      | succ gk =>
        have HL' : Hid ((l' ++ [bits BinOp.or IntKind.u8 (x' % 256) 128]) ++ uvl gk (x' / 128) = l ++ uvl 10 x) := by
          show _ = _
          rw [← HL.out, uvl_more gk h2, List.append_assoc]
          rfl
        have HX' : Hid (x' / 128 < 128 ^ (gk + 1)) := div128 HX.out
        go_wp2_with (at_builtin; refine wpList_append_run rfl rfl hap rfl rfl ?_)
        go_roundg gk
        case measure => omega
        case rel => exact ⟨v2, _, x' / 128, rfl, by go_num, by omega, by omega, HX', HL', ho2, hs3⟩
    · obtain ⟨v2, w2, hap, ho2, hs2⟩ := append_one wr base u0 l' x' hown' (by omega) hbase'
      have hs3 := hst.trans hs2
      clear hu hown hown' hst hs2
      go_wp2_with (at_builtin; refine wpList_append_run rfl rfl hap rfl rfl ?_)
      go_ret
      refine ⟨v2, rfl, ?_, hs3⟩
      rw [← HL.out, uvl_last gk (by omega)]
      exact ho2

/-- Zig-zag. -/
def zzg (x : Int) : Int := if x < 0 then bits BinOp.xor IntKind.u64 IntKind.u64.max (IntKind.u64.wrap (IntKind.u64.wrap x * 2)) else x * 2

theorem zzg_bd (x : Int) (h1 : x ≤ 9223372036854775807) : 0 ≤ zzg x ∧ zzg x ≤ 18446744073709551615 := by
  unfold zzg
  split
  · exact bounds_u64 (wf_bits _ _ _ _)
  · omega

set_option maxHeartbeats 400000 in
theorem av_any (base : Nat) (v : Value) (l : List Int) (x : Int) (w : World) (h0 : -9223372036854775808 ≤ x) (h1 : x ≤ 9223372036854775807) (hown : Own w base v l) (hsz : l.length ≤ 50000) (hbase : base ≤ w.heap.size) :
    Calls Yba.prog 14 #[v, .int .i64 x] w (AppPost base w v (l ++ uvl 10 (zzg x))) := by
  have hz := zzg_bd x h1
  have hc := uv_any base v l (zzg x) w hz.1 hz.2 hown hsz hbase
  have hsg : IntKind.u64.signed = false := rfl
  clear hz
  by_cases h2 : x < 0
  · have e : zzg x = bits BinOp.xor IntKind.u64 IntKind.u64.max (IntKind.u64.wrap (IntKind.u64.wrap x * 2)) := by unfold zzg; rw [if_pos h2]
    have HC : Hid (Calls Yba.prog 15 #[v, .int .u64 (zzg x)] w (AppPost base w v (l ++ uvl 10 (zzg x)))) := hc
    have HE : Hid (zzg x = bits BinOp.xor IntKind.u64 IntKind.u64.max (IntKind.u64.wrap (IntKind.u64.wrap x * 2))) := e
    clear e hc
    go_enter Yba.func14, Yba.ntmps14
    go_wp2_with fail
    rw [← HE.out]
    refine HC.out.mono ?_
    rintro e w' ⟨v', rfl, ho, hs⟩
    go_wp2
    go_ret
    exact ⟨v', rfl, ho, hs⟩
  · have e : zzg x = x * 2 := by unfold zzg; rw [if_neg h2]
    have HC : Hid (Calls Yba.prog 15 #[v, .int .u64 (zzg x)] w (AppPost base w v (l ++ uvl 10 (zzg x)))) := hc
    have HE : Hid (zzg x = x * 2) := e
    clear e hc
    go_enter Yba.func14, Yba.ntmps14
    go_wp2_with fail
    rw [← HE.out]
    refine HC.out.mono ?_
    rintro e w' ⟨v', rfl, ho, hs⟩
    go_wp2
    go_ret
    exact ⟨v', rfl, ho, hs⟩

set_option maxHeartbeats 400000 in
theorem zv_any (base : Nat) (v : Value) (l : List Int) (x : Int) (w : World) (h0 : -9223372036854775808 ≤ x) (h1 : x ≤ 9223372036854775807) (hown : Own w base v l) (hsz : l.length ≤ 50000) (hbase : base ≤ w.heap.size) :
    Calls Yba.prog 9 #[v, .int .i64 x] w (AppPost base w v (l ++ uvl 10 (zzg x))) := by
  have hu := uvl_len 10 (zzg x)
  have hz := zzg_bd x h1
  have hsg : IntKind.u64.signed = false := rfl
  obtain ⟨z, hzz⟩ : ∃ z, zzg x = z := ⟨_, rfl⟩
  rw [hzz] at hz hu ⊢
  have HZ : Hid (zzg x = z) := hzz
  clear hzz
  go_enter Yba.func9, Yba.ntmps9
  go_upto_if 10 with fail
  go_cut [5] (fun u wc => u = .int .u64 z ∧ w = wc)
  case first =>
    by_cases h2 : x < 0
    · have e : zzg x = bits BinOp.xor IntKind.u64 IntKind.u64.max (IntKind.u64.wrap (IntKind.u64.wrap x * 2)) := by unfold zzg; rw [if_pos h2]
      have HE : Hid (zzg x = bits BinOp.xor IntKind.u64 IntKind.u64.max (IntKind.u64.wrap (IntKind.u64.wrap x * 2))) := e
      clear e
      go_wp2
      go_meet
      case rel => exact ⟨by rw [← HZ.out, HE.out], rfl⟩
    · have e : zzg x = x * 2 := by unfold zzg; rw [if_neg h2]
      have HE : Hid (zzg x = x * 2) := e
      clear e
      go_wp2
      go_meet
      case rel => exact ⟨congrArg _ (by rw [← HZ.out, HE.out]; simp [IntKind.wrap_u64]; omega), rfl⟩
  case rest =>
    obtain ⟨rfl, rfl⟩ := hcut
    go_wp2
    go_loopg [0, 5] 10 (fun g vv vx wr => ∃ (v' : Value) (l' : List Int) (x' : Int), vv = v' ∧ vx = .int .u64 x' ∧ 0 ≤ x' ∧ x' ≤ 18446744073709551615 ∧ Hid (x' < 128 ^ (g + 1)) ∧ Hid (l' ++ uvl g x' = l ++ uvl 10 z) ∧ Own wr base v' l' ∧ Step w wr v v')
    case atStart => exact ⟨v, l, z, rfl, rfl, hz.1, hz.2, by show z < 128 ^ 11; omega, rfl, hown, Step.refl _ _⟩
    case round =>
      obtain ⟨v', l', x', rfl, rfl, h0', h1', HX, HL, hown', hst⟩ := hrel
      have hbase' : base ≤ wr.heap.size := Nat.le_trans hbase hst.grown.size
      have hlen : l'.length ≤ 60000 := by have := congrArg List.length HL.out; simp at this; omega
      by_cases h2 : 128 ≤ x'
      · obtain ⟨v2, w2, hap, ho2, hs2⟩ := append_one wr base u0 l' (bits BinOp.or IntKind.u8 (x' % 256) 128) hown' (by omega) hbase'
        have hs3 := hst.trans hs2
        clear hu hown hown' hst hs2
        cases gk with
        | zero => exact absurd HX.out (by show ¬ x' < 128 ^ 1; omega)
        | succ gk =>
          have HL' : Hid ((l' ++ [bits BinOp.or IntKind.u8 (x' % 256) 128]) ++ uvl gk (x' / 128) = l ++ uvl 10 z) := by
            show _ = _
            rw [← HL.out, uvl_more gk h2, List.append_assoc]
            rfl
          have HX' : Hid (x' / 128 < 128 ^ (gk + 1)) := div128 HX.out
          go_wp2_with (at_builtin; refine wpList_append_run rfl rfl hap rfl rfl ?_)
          go_roundg gk
          case measure => omega
          case rel => exact ⟨v2, _, x' / 128, rfl, by go_num, by omega, by omega, HX', HL', ho2, hs3⟩
      · obtain ⟨v2, w2, hap, ho2, hs2⟩ := append_one wr base u0 l' x' hown' (by omega) hbase'
        have hs3 := hst.trans hs2
        clear hu hown hown' hst hs2
        go_wp2_with (at_builtin; refine wpList_append_run rfl rfl hap rfl rfl ?_)
        go_ret
        refine ⟨v2, rfl, ?_, hs3⟩
        rw [← HL.out, uvl_last gk (by omega)]
        exact ho2
end Go.Proofs.Ybulkbtda
