/-
  THE PLAIN LAW of trimZeros: no Go in sight.
-/
namespace Go.Proofs.Qxb6600357a.Plain

/-- 'm' is 'q' with 'n' decimal zeros behind it. -/
def Zeros (m q : Int) (n : Nat) : Prop := m = q * 10 ^ n

theorem Zeros.refl (m : Int) : Zeros m m 0 := by unfold Zeros; simp

theorem Zeros.more {m q : Int} {n : Nat} (h : Zeros m q n) (c : Int) (k : Nat) (hc : c = 10 ^ k) (hq : q % c = 0) : Zeros m (q / c) (n + k) := by
  unfold Zeros at *
  have h2 : q = q / c * c := by
    have := Int.mul_ediv_add_emod q c
    rw [hq, Int.add_zero, Int.mul_comm] at this
    exact this.symm
  rw [h, Int.pow_add, ← hc]
  conv => lhs; rw [h2]
  rw [Int.mul_assoc, Int.mul_comm c]

/-- the same, with the number and the power written out. -/
theorem Zeros.by' {m q r c : Int} {n : Nat} (k : Nat) (h : Zeros m q n) (hc : c = 10 ^ k) (hr : q = r * c) : Zeros m r (n + k) := by
  unfold Zeros at *
  rw [h, hr, hc, Int.pow_add, Int.mul_assoc, Int.mul_comm (10 ^ k)]

theorem pow_pos' (n : Nat) : (0 : Int) < 10 ^ n := Int.pow_pos (by decide)

theorem Zeros.bound {m q : Int} {n : Nat} (h : Zeros m q n) (h0 : 0 < m) (h1 : m ≤ 18446744073709551615) : 0 < q ∧ q ≤ m ∧ n ≤ 19 := by
  unfold Zeros at h
  have hp := pow_pos' n
  have hq : 0 < q := by
    rcases Int.lt_or_le 0 q with hq | hq
    · exact hq
    · have := Int.mul_le_mul_of_nonneg_right hq (Int.le_of_lt hp)
      rw [Int.zero_mul] at this
      omega
  have hqm : q ≤ m := by
    rw [h]
    have := Int.mul_le_mul_of_nonneg_left (show (1 : Int) ≤ 10 ^ n by omega) (Int.le_of_lt hq)
    rw [Int.mul_one] at this
    exact this
  refine ⟨hq, hqm, ?_⟩
  rcases Nat.lt_or_ge 19 n with hn | hn
  · exfalso
    have e : n = 20 + (n - 20) := by omega
    have hr := pow_pos' (n - 20)
    have hbig : (10 : Int) ^ 20 ≤ 10 ^ n := by
      rw [e, Int.pow_add]
      have := Int.mul_le_mul_of_nonneg_left (show (1 : Int) ≤ 10 ^ (n - 20) by omega) (show (0 : Int) ≤ 10 ^ 20 by decide)
      rw [Int.mul_one] at this
      exact this
    have := Int.mul_le_mul_of_nonneg_right (show (1 : Int) ≤ q by omega) (Int.le_of_lt hp)
    rw [Int.one_mul, ← h] at this
    have h20 : (10 : Int) ^ 20 = 100000000000000000000 := by decide
    omega
  · exact hn

theorem Zeros.unique {m q q' : Int} {n n' : Nat} (h : Zeros m q n) (h' : Zeros m q' n') (hq : q % 10 ≠ 0) (hq' : q' % 10 ≠ 0) : q = q' ∧ n = n' := by
  unfold Zeros at *
  have key : ∀ (a b : Int) (i j : Nat), a * 10 ^ i = b * 10 ^ j → b % 10 ≠ 0 → i ≤ j := by
    intro a b i j hab hb
    rcases Nat.lt_or_ge j i with hlt | hge
    · exfalso
      have e : i = (i - j - 1) + 1 + j := by omega
      rw [e, Int.pow_add, Int.pow_add, ← Int.mul_assoc] at hab
      have := Int.eq_of_mul_eq_mul_right (Int.ne_of_gt (pow_pos' j)) hab
      apply hb
      rw [← this, ← Int.mul_assoc]
      simp
    · exact hge
  have e1 := key q' q n' n (by rw [← h', ← h]) hq
  have e2 := key q q' n n' (by rw [← h, ← h']) hq'
  have e : n = n' := by omega
  subst e
  exact ⟨Int.eq_of_mul_eq_mul_right (Int.ne_of_gt (pow_pos' n)) (by rw [← h, ← h']), rfl⟩

/-- what trimZeros answers: (0, 0) at 0; else all zeros taken off. -/
def Trimmed (m q : Int) (n : Nat) : Prop := Zeros m q n ∧ 0 ≤ q ∧ q ≤ 18446744073709551615 ∧ n ≤ 19 ∧ (m = 0 → q = 0 ∧ n = 0) ∧ (m ≠ 0 → q % 10 ≠ 0)

theorem Trimmed.unique {m q q' : Int} {n n' : Nat} (h : Trimmed m q n) (h' : Trimmed m q' n') : q = q' ∧ n = n' := by
  by_cases hm : m = 0
  · have a := h.2.2.2.2.1 hm
    have b := h'.2.2.2.2.1 hm
    omega
  · exact h.1.unique h'.1 (h.2.2.2.2.2 hm) (h'.2.2.2.2.2 hm)

theorem Trimmed.zero : Trimmed 0 0 0 := ⟨Zeros.refl 0, by omega, by omega, by omega, fun _ => ⟨rfl, rfl⟩, fun h => absurd rfl h⟩

theorem Trimmed.of {m q : Int} {n : Nat} (h : Zeros m q n) (h0 : 0 < m) (h1 : m ≤ 18446744073709551615) (hq : q % 10 ≠ 0) : Trimmed m q n := by
  have b := h.bound h0 h1
  exact ⟨h, by omega, by omega, b.2.2, fun e => by omega, fun _ => hq⟩

/-- m is q times 10 to the n, both ways. -/
theorem Trimmed.div {m q : Int} {n : Nat} (h : Trimmed m q n) : m % 10 ^ n = 0 ∧ m / 10 ^ n = q := by
  have e := h.1
  unfold Zeros at e
  rw [e]
  exact ⟨Int.mul_emod_left _ _, Int.mul_ediv_cancel _ (Int.ne_of_gt (pow_pos' n))⟩

/-- trimming what is left takes nothing more off. -/
theorem Trimmed.again {m q : Int} {n : Nat} (h : Trimmed m q n) : Trimmed q q 0 := by
  refine ⟨Zeros.refl q, h.2.1, h.2.2.1, by omega, fun e => ⟨e, rfl⟩, fun e => ?_⟩
  refine h.2.2.2.2.2 (fun hm => e (h.2.2.2.2.1 hm).1)

/-- ten times as much: one zero more. -/
theorem Trimmed.times10 {m q : Int} {n : Nat} (h : Trimmed m q n) (h0 : 0 < m) (h1 : m * 10 ≤ 18446744073709551615) : Trimmed (m * 10) q (n + 1) := by
  refine Trimmed.of ?_ (by omega) h1 (h.2.2.2.2.2 (by omega))
  have e := h.1
  unfold Zeros at *
  rw [e, Int.pow_succ, Int.mul_assoc]

/-- zeros put behind a number that ends in none. -/
theorem Trimmed.times {q : Int} {k : Nat} (h0 : 0 ≤ q) (hq : q % 10 ≠ 0) (h1 : q * 10 ^ k ≤ 18446744073709551615) : Trimmed (q * 10 ^ k) q k := by
  have hp := pow_pos' k
  have hq0 : 0 < q := by
    rcases Int.lt_or_le 0 q with h | h
    · exact h
    · have : q = 0 := by omega
      subst this; simp at hq
  exact Trimmed.of rfl (Int.mul_pos hq0 hp) h1 hq

theorem pow_mono {i j : Nat} (h : i ≤ j) : (10 : Int) ^ i ≤ 10 ^ j := by
  have e : j = i + (j - i) := by omega
  rw [e, Int.pow_add]
  have hi := pow_pos' i
  have hj := pow_pos' (j - i)
  have := Int.mul_le_mul_of_nonneg_left (show (1 : Int) ≤ 10 ^ (j - i) by omega) (Int.le_of_lt hi)
  rw [Int.mul_one] at this
  exact this

theorem pow_le19 {i : Nat} (h : i ≤ 19) : (10 : Int) ^ i ≤ 10000000000000000000 := by
  have := pow_mono h
  have e : (10 : Int) ^ 19 = 10000000000000000000 := by decide
  omega

end Go.Proofs.Qxb6600357a.Plain
