/-
  THE THREE-PASS MODEL, plainly: what it gathers is 'sig'.
-/
import Derived.Test.Qxb6600357aDoorDigits
namespace Go.Proofs.Qxb6600357aDoor.Plain

/-- A byte of a number's text: a digit, '-' or '.'. -/
def okc (c : UInt8) : Bool := isDig c || c.toNat == 45 || c.toNat == 46
def isZero (c : UInt8) : Bool := c.toNat == 48

theorem sig_true (l : List UInt8) : sig true l = (l.takeWhile okc).filter isDig := by
  induction l with
  | nil => rfl
  | cons c r ih =>
    by_cases h1 : c.toNat = 45 ∨ c.toNat = 46
    · have hd : isDig c = false := by simp [isDig]; omega
      have ho : okc c = true := by simp [okc]; omega
      rw [sig_skip (by omega), ih, List.takeWhile_cons, ho]
      simp [hd]
    · by_cases h2 : c.toNat < 48 ∨ 57 < c.toNat
      · have ho : okc c = false := by simp [okc, isDig]; omega
        rw [sig_stop (by simp; omega) h2, List.takeWhile_cons, ho]
        simp
      · have hd : isDig c = true := by simp [isDig]; omega
        have ho : okc c = true := by simp [okc, hd]
        rw [sig_take (by simp; omega) h2, ih, List.takeWhile_cons, ho]
        simp [hd]

theorem sig_false (l : List UInt8) : sig false l = ((l.takeWhile okc).filter isDig).dropWhile isZero := by
  induction l with
  | nil => rfl
  | cons c r ih =>
    by_cases h1 : c.toNat = 45 ∨ c.toNat = 46
    · have hd : isDig c = false := by simp [isDig]; omega
      have ho : okc c = true := by simp [okc]; omega
      rw [sig_skip (by omega), ih, List.takeWhile_cons, ho]
      simp [hd]
    · by_cases h2 : c.toNat < 48 ∨ 57 < c.toNat
      · have ho : okc c = false := by simp [okc, isDig]; omega
        rw [sig_stop (by omega) h2, List.takeWhile_cons, ho]
        simp
      · have hd : isDig c = true := by simp [isDig]; omega
        have ho : okc c = true := by simp [okc, hd]
        by_cases h3 : c.toNat = 48
        · have hz : isZero c = true := by simp [isZero, h3]
          rw [sig_skip (by simp; omega), ih, List.takeWhile_cons, ho]
          simp [hd, hz]
        · have hz : isZero c = false := by simp [isZero, h3]
          rw [sig_take (by omega) h2, sig_true, List.takeWhile_cons, ho]
          simp [hd, hz]

/-- The first pass, at place k. -/
def Pre (l : List UInt8) (k : Nat) : Prop := l.takeWhile okc = l.take k ++ (l.drop k).takeWhile okc
theorem Pre.start (l : List UInt8) : Pre l 0 := by simp [Pre]
theorem Pre.step {l : List UInt8} {k : Nat} (h : Pre l k) (hk : k < l.length) (hc : okc l[k] = true) : Pre l (k + 1) := by
  unfold Pre at *
  rw [h, List.take_succ_eq_append_getElem hk, drop_at hk, List.takeWhile_cons, hc, if_pos rfl, List.append_assoc]
  rfl
theorem Pre.stop {l : List UInt8} {k : Nat} (h : Pre l k) (hc : ∀ hk : k < l.length, okc l[k] = false) : l.takeWhile okc = l.take k := by
  unfold Pre at h
  rw [h]
  by_cases hk : k < l.length
  · rw [drop_at hk, List.takeWhile_cons, hc hk]; simp
  · rw [List.drop_eq_nil_of_le (by omega)]; simp

/-- The second pass. -/
def dgs (l : List UInt8) (k : Nat) : List UInt8 := (l.take k).filter isDig
theorem dgs_zero (l : List UInt8) : dgs l 0 = [] := by simp [dgs]
theorem dgs_yes {l : List UInt8} {k : Nat} (hk : k < l.length) (hd : isDig l[k] = true) : dgs l (k + 1) = dgs l k ++ [l[k]] := by
  unfold dgs; rw [List.take_succ_eq_append_getElem hk, List.filter_append]; simp [hd]
theorem dgs_no {l : List UInt8} {k : Nat} (hk : k < l.length) (hd : isDig l[k] = false) : dgs l (k + 1) = dgs l k := by
  unfold dgs; rw [List.take_succ_eq_append_getElem hk, List.filter_append]; simp [hd]
theorem dgs_le (l : List UInt8) (k : Nat) : (dgs l k).length ≤ k := Nat.le_trans (List.length_filter_le _ _) (List.length_take_le _ _)

/-- The third pass. -/
def Lead (dg : List UInt8) (k : Nat) : Prop := dg.dropWhile isZero = (dg.drop k).dropWhile isZero
theorem Lead.start (dg : List UInt8) : Lead dg 0 := by simp [Lead]
theorem Lead.step {dg : List UInt8} {k : Nat} (h : Lead dg k) (hk : k < dg.length) (hc : dg[k].toNat = 48) : Lead dg (k + 1) := by
  unfold Lead at *
  rw [h, drop_at hk, List.dropWhile_cons]
  simp [isZero, hc]
theorem Lead.stop {dg : List UInt8} {k : Nat} (h : Lead dg k) (hc : ∀ hk : k < dg.length, dg[k].toNat ≠ 48) : dg.dropWhile isZero = dg.drop k := by
  unfold Lead at h
  rw [h]
  by_cases hk : k < dg.length
  · have := hc hk
    rw [drop_at hk, List.dropWhile_cons]; simp [isZero, this]
  · rw [List.drop_eq_nil_of_le (by omega)]; simp

/-- All three. -/
theorem model_sig {l : List UInt8} {e k : Nat} (h1 : l.takeWhile okc = l.take e) (h3 : (dgs l e).dropWhile isZero = (dgs l e).drop k) : (dgs l e).drop k = sig false l := by
  rw [sig_false, h1, ← h3]; rfl

theorem okc_dig {c : UInt8} (h : 48 ≤ c.toNat ∧ c.toNat ≤ 57) : okc c = true := by simp [okc, isDig]; omega
theorem okc_mark {c : UInt8} (h : c.toNat = 45 ∨ c.toNat = 46) : okc c = true := by simp [okc, isDig]; omega
theorem okc_no {c : UInt8} (h1 : ¬ (48 ≤ c.toNat ∧ c.toNat ≤ 57)) (h2 : c.toNat ≠ 45) (h3 : c.toNat ≠ 46) : okc c = false := by simp [okc, isDig]; omega
theorem isDig_yes {c : UInt8} (h : 48 ≤ c.toNat ∧ c.toNat ≤ 57) : isDig c = true := by simp [isDig]; omega
theorem isDig_no {c : UInt8} (h : ¬ (48 ≤ c.toNat ∧ c.toNat ≤ 57)) : isDig c = false := by simp [isDig]; omega
end Go.Proofs.Qxb6600357aDoor.Plain
