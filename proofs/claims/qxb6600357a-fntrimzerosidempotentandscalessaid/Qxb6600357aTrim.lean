/-
  THE WALKS of trimZeros, ZZtrimZeros and pow10u.
-/
import Derived.Test.Qxb6600357aRows
import Derived.Test.Qxb6600357aPlain
import Derived.WalkKit
import Derived.ProofKit
namespace Go.Proofs.Qxb6600357a.Walks
open Go.RowKit
open Go.Proofs.Qxb6600357a.Plain

theorem ret_pair {q : Int} {a : Int} {b : Nat} (h : a = b) : Ending.returned (.tuple #[.int .u64 q, .int .i64 a]) = .returned (.tuple #[.int .u64 q, .int .i64 b]) := by rw [h]

set_option maxHeartbeats 400000 in
theorem trim_any (m : Int) (h0 : 0 ≤ m) (h1 : m ≤ 18446744073709551615) (w : World) :
    Calls Try.prog 8 #[.int .u64 m] w fun e w' => ∃ (q : Int) (n : Nat), e = .returned (.tuple #[.int .u64 q, .int .i64 n]) ∧ Trimmed m q n ∧ w' = w := by
  by_cases hm : m = 0
  · subst hm
    go_enter Try.func8, Try.ntmps8
    go_wp2
    go_ret2
    exact ⟨0, 0, rfl, Trimmed.zero, rfl⟩
  have hpos : 0 < m := by omega
  have hne : (m == 0) = false := beq_eq_false_iff_ne.2 hm
  by_cases ht : m % 10 = 0
  · have hb : (m % 10 == 0) = true := beq_iff_eq.2 ht
    clear hm ht
    go_enter Try.func8, Try.ntmps8
    go_wp2
    go_loop [0, 4] (fun t c => ∃ (q : Int) (n : Nat), t = .int .u64 q ∧ c = .int .i64 n ∧ 0 < q ∧ q ≤ m ∧ n ≤ 19 ∧ Zeros m q n) (fun t _ => (intOf t).toNat)
    case atStart => exact ⟨m, 0, rfl, rfl, hpos, by omega, by omega, Zeros.refl m⟩
    case round =>
      obtain ⟨q, n, rfl, rfl, hq, hqm, hn, hz⟩ := hrel
      clear hb
      go_wp2
      case roundEnd =>
        have hd : (q % 100000000 == 0) = true := by assumption
        have hd := beq_iff_eq.1 hd
        have hz' := hz.by' (r := q / 100000000) (c := 100000000) 8 (by decide) (by omega)
        have hb := hz'.bound hpos h1
        go_round
        case rel => exact ⟨q / 100000000, n + 8, rfl, by go_num, hb.1, hb.2.1, hb.2.2, hz'⟩
        case measure => simp [intOf]; omega
      all_goals
        go_ret2
        simp only [beq_iff_eq, beq_eq_false_iff_ne, ne_eq] at *
        first
          | exact ⟨_, n + 7, ret_pair (by omega), Trimmed.of (hz.by' (c := 10000000) 7 (by decide) (by omega)) hpos h1 (by omega), trivial⟩
          | exact ⟨_, n + 6, ret_pair (by omega), Trimmed.of (hz.by' (c := 1000000) 6 (by decide) (by omega)) hpos h1 (by omega), trivial⟩
          | exact ⟨_, n + 5, ret_pair (by omega), Trimmed.of (hz.by' (c := 100000) 5 (by decide) (by omega)) hpos h1 (by omega), trivial⟩
          | exact ⟨_, n + 4, ret_pair (by omega), Trimmed.of (hz.by' (c := 10000) 4 (by decide) (by omega)) hpos h1 (by omega), trivial⟩
          | exact ⟨_, n + 3, ret_pair (by omega), Trimmed.of (hz.by' (c := 1000) 3 (by decide) (by omega)) hpos h1 (by omega), trivial⟩
          | exact ⟨_, n + 2, ret_pair (by omega), Trimmed.of (hz.by' (c := 100) 2 (by decide) (by omega)) hpos h1 (by omega), trivial⟩
          | exact ⟨_, n + 1, ret_pair (by omega), Trimmed.of (hz.by' (c := 10) 1 (by decide) (by omega)) hpos h1 (by omega), trivial⟩
          | exact ⟨_, n, ret_pair (by omega), Trimmed.of hz hpos h1 (by omega), trivial⟩
  · have hb : (m % 10 == 0) = false := beq_eq_false_iff_ne.2 ht
    go_enter Try.func8, Try.ntmps8
    go_wp2
    go_ret2
    exact ⟨m, 0, rfl, Trimmed.of (Zeros.refl m) hpos h1 ht, rfl⟩

theorem zztrim_any (m : Int) (h0 : 0 ≤ m) (h1 : m ≤ 18446744073709551615) (w : World) :
    Calls Try.prog 6 #[.int .u64 m] w fun e w' => ∃ (q : Int) (n : Nat), e = .returned (.tuple #[.int .u64 q, .int .i64 n]) ∧ Trimmed m q n ∧ w' = w := by
  go_enter Try.func6, Try.ntmps6
  go_wp2_with (go_at_call 8; refine (trim_any _ h0 h1 _).mono ?_; rintro e w' ⟨q, n, rfl, ht, rfl⟩)
  go_ret2
  exact ⟨q, n, rfl, ht, rfl⟩

set_option maxHeartbeats 400000 in
theorem pow_any (k : Nat) (hk : k ≤ 19) (w : World) :
    Calls Try.prog 7 #[.int .i64 k] w fun e w' => ∃ p : Int, e = .returned (.int .u64 p) ∧ p = 10 ^ k ∧ w' = w := by
  go_enter Try.func7, Try.ntmps7
  go_wp2
  go_loop [3, 4] (fun t c => ∃ (p : Int) (i : Nat), t = .int .u64 p ∧ c = .int .i64 i ∧ i ≤ k ∧ 0 < p ∧ p ≤ 10000000000000000000 ∧ Zeros p 1 i) (fun _ c => k - (intOf c).toNat)
  case atStart => exact ⟨1, 0, rfl, rfl, by omega, by omega, by omega, by unfold Zeros; simp⟩
  case round =>
    obtain ⟨p, i, rfl, rfl, hik, hp0, hp1, hz⟩ := hrel
    by_cases hlt : i < k
    · have hz' : Zeros (p * 10) 1 (i + 1) := by unfold Zeros at *; rw [hz, Int.pow_succ, Int.mul_assoc]
      have hp2 : p * 10 ≤ 10000000000000000000 := by
        have := pow_le19 (show i + 1 ≤ 19 by omega)
        unfold Zeros at hz'
        rw [hz', Int.one_mul]; exact this
      go_wp2
      go_round
      case rel => exact ⟨p * 10, i + 1, rfl, by go_num, by omega, by omega, hp2, hz'⟩
      case measure => simp [intOf]; omega
    · have e : i = k := by omega
      go_wp2
      go_ret
      exact ⟨p, rfl, by unfold Zeros at hz; rw [hz, e, Int.one_mul], rfl⟩
end Go.Proofs.Qxb6600357a.Walks
