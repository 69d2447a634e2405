/-
  PLAIN LAWS on the answer of shortExponentText: no Go in sight.
-/
import Derived.Test.Qxb6600357aDoorPlain
namespace Go.Proofs.Qxb6600357aDoor.Plain

theorem sig_digits (b : Bool) (l : List UInt8) : ∀ c ∈ sig b l, 48 ≤ c.toNat ∧ c.toNat ≤ 57 := by
  induction l generalizing b with
  | nil => intro c hc; simp [sig] at hc
  | cons a r ih =>
    intro c hc
    unfold sig at hc
    split at hc
    · exact ih b c hc
    · split at hc
      · simp at hc
      · rcases List.mem_cons.1 hc with rfl | hc
        · omega
        · exact ih true c hc

theorem sig_head (l : List UInt8) : ∀ c r, sig false l = c :: r → c.toNat ≠ 48 := by
  induction l with
  | nil => intro c r hc; simp [sig] at hc
  | cons a r ih =>
    intro c r' hc
    unfold sig at hc
    split at hc
    · exact ih c r' hc
    · split at hc
      · simp at hc
      · rename_i h1 h2
        simp only [List.cons.injEq] at hc
        obtain ⟨rfl, _⟩ := hc
        intro h
        exact h1 (Or.inr (Or.inr ⟨h, rfl⟩))

/-- Is it a digit? -/
def isDig (c : UInt8) : Bool := decide (48 ≤ c.toNat ∧ c.toNat ≤ 57)
/-- How many digits a text holds. -/
def cnt (l : List UInt8) : Nat := (l.filter isDig).length

theorem cnt_le (l : List UInt8) : cnt l ≤ l.length := List.length_filter_le _ _
theorem cnt_snoc (l : List UInt8) (k : Nat) (hk : k < l.length) : cnt (l.take (k + 1)) = cnt (l.take k) + if 48 ≤ l[k].toNat ∧ l[k].toNat ≤ 57 then 1 else 0 := by
  unfold cnt
  rw [List.take_succ_eq_append_getElem hk, List.filter_append]
  by_cases h : 48 ≤ l[k].toNat ∧ l[k].toNat ≤ 57 <;> simp [isDig, h]

theorem sig_cnt (b : Bool) (l : List UInt8) : (sig b l).length ≤ cnt l := by
  induction l generalizing b with
  | nil => simp [sig]
  | cons a r ih =>
    have e : cnt r ≤ cnt (a :: r) := by unfold cnt; rw [List.filter_cons]; split <;> simp
    unfold sig
    split
    · exact Nat.le_trans (ih b) e
    · split
      · simp
      · rename_i h1 h2
        have : cnt (a :: r) = cnt r + 1 := by unfold cnt; rw [List.filter_cons, if_pos (by simp [isDig]; omega)]; simp
        rw [this, List.length_cons]
        exact Nat.succ_le_succ (ih true)

/-- The number that digits spell, behind a number. -/
def dval : Nat → List UInt8 → Nat
  | a, [] => a
  | a, c :: r => dval (a * 10 + (c.toNat - 48)) r

theorem dval_one (a : Nat) (c : UInt8) : dval a [c] = a * 10 + (c.toNat - 48) := rfl

theorem dval_append (a : Nat) (x y : List UInt8) : dval a (x ++ y) = dval (dval a x) y := by
  induction x generalizing a with
  | nil => rfl
  | cons c r ih => exact ih _

theorem dval_le (a : Nat) (x : List UInt8) : a ≤ dval a x := by
  induction x generalizing a with
  | nil => exact Nat.le_refl _
  | cons c r ih => exact Nat.le_trans (by omega) (ih _)

theorem dig_toNat (u : Nat) (h : u < 10) : (UInt8.ofNat (48 + u)).toNat = 48 + u := by
  simp; omega

open Go.Lib in
theorem dec_val (u : Nat) : dval 0 (decDigits u) = u := by
  induction u using Nat.strongRecOn with
  | ind u ih =>
    by_cases h : u < 10
    · rw [decDigits, dif_pos h]
      rw [dval_one, dig_toNat u h]; omega
    · rw [decDigits, dif_neg h, dval_append, ih (u / 10) (by omega)]
      rw [dval_one, dig_toNat (u % 10) (by omega)]; omega

open Go.Lib in
theorem dec_digits (u : Nat) : ∀ c ∈ decDigits u, 48 ≤ c.toNat ∧ c.toNat ≤ 57 := by
  induction u using Nat.strongRecOn with
  | ind u ih =>
    unfold decDigits
    split
    · rename_i h
      intro c hc
      simp only [List.mem_singleton] at hc
      subst hc
      rw [dig_toNat u h]; omega
    · rename_i h
      intro c hc
      rcases List.mem_append.1 hc with hc | hc
      · exact ih (u / 10) (by omega) c hc
      · simp only [List.mem_singleton] at hc
        subst hc
        rw [dig_toNat _ (by omega)]; omega

open Go.Lib in
theorem dec_ne (u : Nat) : decDigits u ≠ [] := by
  unfold decDigits
  split <;> simp

open Go.Lib in
/-- A leading zero stands alone. -/
theorem dec_lead (u : Nat) : ∀ c r, decDigits u = c :: r → c.toNat = 48 → r = [] ∧ u = 0 := by
  induction u using Nat.strongRecOn with
  | ind u ih =>
    intro c r hc h48
    unfold decDigits at hc
    split at hc
    · rename_i h
      simp only [List.cons.injEq] at hc
      obtain ⟨rfl, rfl⟩ := hc
      rw [dig_toNat u h] at h48
      exact ⟨rfl, by omega⟩
    · rename_i h
      cases hd : decDigits (u / 10) with
      | nil => exact absurd hd (dec_ne _)
      | cons c' r' =>
        rw [hd] at hc
        simp only [List.cons_append, List.cons.injEq] at hc
        obtain ⟨rfl, rfl⟩ := hc
        have := ih (u / 10) (by omega) c' r' hd h48
        omega

open Go.Lib in
theorem dec_len (u k : Nat) (h : u < 10 ^ (k + 1)) : (decDigits u).length ≤ k + 1 := by
  induction k generalizing u with
  | zero =>
    unfold decDigits
    rw [dif_pos (by simpa using h)]
    simp
  | succ k ih =>
    unfold decDigits
    split
    · simp
    · rw [List.length_append, List.length_singleton]
      have := ih (u / 10) (by rw [Nat.pow_succ] at h; omega)
      omega

/-- The mark of a negative number. -/
def neg (n : Int) : Bool := decide (n < 0)

theorem byteArray_size (L : List UInt8) : (⟨L.toArray⟩ : ByteArray).size = L.length := by show L.toArray.size = _; simp
theorem byteArray_get (L : List UInt8) (i : Nat) (h : i < (⟨L.toArray⟩ : ByteArray).size) : (⟨L.toArray⟩ : ByteArray)[i] = L[i]'(by rw [← byteArray_size]; exact h) := rfl

/-- What is known of the answer S = short l n, byte by byte; d: how many digits stand behind the point. -/
theorem short_facts (l : List UInt8) (n : Int) (S : ByteArray) (hS : S = ⟨(short l n).toArray⟩) :
    S.size = 3 + (sig false l).length + (Lib.itoa n).length ∧ (∀ h : 0 < S.size, S[0].toNat = 48) ∧ (∀ h : 1 < S.size, S[1].toNat = 46) ∧
    (∀ k (h : 2 + k < S.size), k < (sig false l).length → 48 ≤ S[2 + k].toNat ∧ S[2 + k].toNat ≤ 57) ∧
    (∀ h : 2 + (sig false l).length < S.size, S[2 + (sig false l).length].toNat = 101) ∧
    (0 < (sig false l).length → ∀ h : 2 < S.size, S[2].toNat ≠ 48) ∧
    (∀ k (h : 3 + (sig false l).length + k < S.size) (hk : k < (Lib.itoa n).length), S[3 + (sig false l).length + k] = (Lib.itoa n)[k]) := by
  subst hS
  have hd := sig_digits false l
  have hh := sig_head l
  have hsz : (⟨(short l n).toArray⟩ : ByteArray).size = 3 + (sig false l).length + (Lib.itoa n).length := by
    show (short l n).toArray.size = _
    simp [short]; omega
  refine ⟨hsz, fun h => rfl, fun h => rfl, ?_, ?_, ?_, ?_⟩
  · intro k h hk
    rw [byteArray_get]
    have e : (short l n)[2 + k]'(by rw [← byteArray_size]; exact h) = (sig false l)[k] := by
      simp only [short, show 2 + k = k + 1 + 1 by omega, List.getElem_cons_succ]
      exact List.getElem_append_left hk
    rw [e]
    exact hd _ (List.getElem_mem _)
  · intro h
    rw [byteArray_get]
    have e : (short l n)[2 + (sig false l).length]'(by rw [← byteArray_size]; exact h) = 101 := by
      simp only [short, show 2 + (sig false l).length = (sig false l).length + 1 + 1 by omega, List.getElem_cons_succ]
      rw [List.getElem_append_right (Nat.le_refl _)]
      simp
    rw [e]
    rfl
  · intro hpos h
    rw [byteArray_get]
    cases hs : sig false l with
    | nil => rw [hs] at hpos; simp at hpos
    | cons c r =>
      have := hh c r hs
      have e : (short l n)[2]'(by rw [← byteArray_size]; exact h) = c := by
        simp [short, hs]
      rw [e]
      exact this
  · intro k h hk
    rw [byteArray_get]
    simp only [short, show 3 + (sig false l).length + k = ((sig false l).length + (k + 1)) + 1 + 1 by omega, List.getElem_cons_succ]
    rw [List.getElem_append_right (by omega)]
    simp

/-- Up to the 'e' two answers over one text are one. -/
theorem short_prefix (l : List UInt8) (n m : Int) (S T : ByteArray) (hS : S = ⟨(short l n).toArray⟩) (hT : T = ⟨(short l m).toArray⟩) :
    T.extract 0 (3 + (sig false l).length) = S.extract 0 (3 + (sig false l).length) := by
  subst hS hT
  have key : ∀ x : Int, (short l x).take (3 + (sig false l).length) = 48 :: 46 :: (sig false l ++ [101]) := by
    intro x
    have e : short l x = (48 :: 46 :: (sig false l ++ [101])) ++ Lib.itoa x := by simp [short]
    rw [e, List.take_left' (by simp; omega)]
  have ext : ∀ L : List UInt8, ∀ k : Nat, (⟨L.toArray⟩ : ByteArray).extract 0 k = ⟨(L.take k).toArray⟩ := by
    intro L k
    apply ByteArray.ext
    simp [ByteArray.data_extract]
  rw [ext, ext, key, key]

theorem itoa_neg' {n : Int} (h : n < 0) : Lib.itoa n = 45 :: Lib.decDigits n.natAbs := by unfold Lib.itoa; rw [if_pos h]
theorem itoa_pos' {n : Int} (h : ¬ n < 0) : Lib.itoa n = Lib.decDigits n.natAbs := by unfold Lib.itoa; rw [if_neg h]; congr 1; omega


/-- The numeral behind the 'e', from place J on: what is known of it. -/
theorem numeral_facts (u : Nat) (hu : u ≤ 9223372036854775808) : 1 ≤ (Lib.decDigits u).length ∧ (Lib.decDigits u).length ≤ 19 ∧
    (∀ k (hk : k < (Lib.decDigits u).length), 48 ≤ (Lib.decDigits u)[k].toNat ∧ (Lib.decDigits u)[k].toNat ≤ 57) ∧
    (∀ h : 0 < (Lib.decDigits u).length, (Lib.decDigits u)[0].toNat = 48 → (Lib.decDigits u).length = 1) := by
  refine ⟨?_, dec_len u 18 (by omega), fun k hk => dec_digits u _ (List.getElem_mem _), ?_⟩
  · have := dec_ne u
    have := List.length_pos_iff.2 this
    omega
  · intro h h0
    cases hd : Lib.decDigits u with
    | nil => rw [hd] at h; simp at h
    | cons c r =>
      have := dec_lead u c r hd (by simpa [hd] using h0)
      simp [this.1]

theorem tail_neg (n : Int) (S : ByteArray) (d : Nat) (hneg : n < 0) (hs : S.size = 3 + d + (Lib.itoa n).length)
    (h7 : ∀ k (h : 3 + d + k < S.size) (hk : k < (Lib.itoa n).length), S[3 + d + k] = (Lib.itoa n)[k]) :
    S.size = 2 + d + 1 + 1 + (Lib.decDigits n.natAbs).length ∧ (∀ h : 2 + d + 1 < S.size, S[2 + d + 1].toNat = 45) ∧
    (∀ k (h : 2 + d + 1 + 1 + k < S.size) (hk : k < (Lib.decDigits n.natAbs).length), S[2 + d + 1 + 1 + k] = (Lib.decDigits n.natAbs)[k]) := by
  have e := itoa_neg' hneg
  have el : (Lib.itoa n).length = (Lib.decDigits n.natAbs).length + 1 := by rw [e]; simp
  refine ⟨by omega, fun h => ?_, fun k h hk => ?_⟩
  · have := h7 0 (by omega) (by omega)
    simp only [e, List.getElem_cons_zero] at this
    simp only [show 3 + d + 0 = 2 + d + 1 by omega] at this
    rw [this]
    rfl
  · have := h7 (k + 1) (by omega) (by omega)
    simp only [e, List.getElem_cons_succ] at this
    simp only [show 3 + d + (k + 1) = 2 + d + 1 + 1 + k by omega] at this
    exact this

theorem tail_pos (n : Int) (S : ByteArray) (d : Nat) (hneg : ¬ n < 0) (hs : S.size = 3 + d + (Lib.itoa n).length)
    (h7 : ∀ k (h : 3 + d + k < S.size) (hk : k < (Lib.itoa n).length), S[3 + d + k] = (Lib.itoa n)[k]) :
    S.size = 2 + d + 1 + (Lib.decDigits n.natAbs).length ∧
    (∀ k (h : 2 + d + 1 + k < S.size) (hk : k < (Lib.decDigits n.natAbs).length), S[2 + d + 1 + k] = (Lib.decDigits n.natAbs)[k]) := by
  have e := itoa_pos' hneg
  have el : (Lib.itoa n).length = (Lib.decDigits n.natAbs).length := by rw [e]
  refine ⟨by omega, fun k h hk => ?_⟩
  have := h7 k (by omega) (by omega)
  simp only [e] at this
  simp only [show 3 + d + k = 2 + d + 1 + k by omega] at this
  exact this

theorem itoa_pos_len (n : Int) : 1 ≤ (Lib.itoa n).length := by
  have := List.length_pos_iff.2 (dec_ne n.natAbs)
  by_cases h : n < 0
  · rw [itoa_neg' h]; simp
  · rw [itoa_pos' h]; omega

/-- One digit more. -/
theorem dval_step {a k u : Nat} {M : List UInt8} (h : dval a (M.drop k) = u) (hk : k < M.length) : dval (a * 10 + (M[k].toNat - 48)) (M.drop (k + 1)) = u := by
  rw [List.drop_eq_getElem_cons hk] at h
  exact h
theorem dval_bound {a k u : Nat} {M : List UInt8} (h : dval a (M.drop k) = u) : a ≤ u := by rw [← h]; exact dval_le _ _
theorem dval_end {a k u : Nat} {M : List UInt8} (h : dval a (M.drop k) = u) (hk : ¬ k < M.length) : a = u := by
  rw [List.drop_eq_nil_of_le (by omega)] at h
  exact h


/-- What appendInt64 has split off: u's digits, and behind them D, are U's. -/
def Split (U u : Nat) (D : List UInt8) : Prop := Lib.decDigits U = Lib.decDigits u ++ D

theorem Split.start (U : Nat) : Split U U [] := by unfold Split; simp
theorem Split.step {U u : Nat} {D : List UInt8} (h : Split U u D) (hu : ¬ u < 10) : Split U (u / 10) (UInt8.ofNat (48 + u % 10) :: D) := by
  unfold Split at *
  rw [h, Lib.decDigits, dif_neg hu]
  simp
theorem Split.fin {U u : Nat} {D : List UInt8} (h : Split U u D) (hu : u < 10) : Lib.decDigits U = UInt8.ofNat (48 + u) :: D := by
  unfold Split at *
  rw [h, Lib.decDigits, dif_pos hu]
  rfl
theorem Split.len {U u : Nat} {D : List UInt8} (h : Split U u D) (hU : U ≤ 9223372036854775808) : D.length ≤ 18 := by
  unfold Split at h
  have h1 := (numeral_facts U hU).2.1
  have h2 := List.length_pos_iff.2 (dec_ne u)
  rw [h, List.length_append] at h1
  omega

end Go.Proofs.Qxb6600357aDoor.Plain
