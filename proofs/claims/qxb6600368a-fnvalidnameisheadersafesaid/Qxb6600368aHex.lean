/-
  PERCENT-ENCODING, plainly: no Go in sight.
-/
namespace Go.Proofs.Qxb6600368a.Plain

/-- A byte that goes into a header as it is. -/
def plainB (n : Nat) : Bool := decide (33 ≤ n ∧ n ≤ 126 ∧ n ≠ 34 ∧ n ≠ 37)
def plainc (c : UInt8) : Bool := plainB c.toNat
theorem plainB_yes {n : Nat} (h1 : 33 ≤ n) (h2 : n ≤ 126) (h3 : n ≠ 34) (h4 : n ≠ 37) : plainB n = true := by simp [plainB]; omega
theorem plainB_no {n : Nat} (h : ¬ (33 ≤ n ∧ n ≤ 126 ∧ n ≠ 34 ∧ n ≠ 37)) : plainB n = false := by simp [plainB]; omega
/-- The sixteen digits. -/
def hexd (n : Nat) : UInt8 := if n < 10 then UInt8.ofNat (48 + n) else UInt8.ofNat (55 + n)
def encb (c : UInt8) : List UInt8 := if plainc c = true then [c] else [37, hexd (c.toNat / 16), hexd (c.toNat % 16)]
def encs : List UInt8 → List UInt8
  | [] => []
  | c :: r => encb c ++ encs r

theorem hexd_lo {n : Nat} (h : n < 10) : (hexd n).toNat = 48 + n := by unfold hexd; rw [if_pos h]; simp; omega
theorem hexd_hi {n : Nat} (h : ¬ n < 10) (h2 : n < 16) : (hexd n).toNat = 55 + n := by unfold hexd; rw [if_neg h]; simp; omega
theorem plainc_iff {c : UInt8} : plainc c = true ↔ (33 ≤ c.toNat ∧ c.toNat ≤ 126 ∧ c.toNat ≠ 34 ∧ c.toNat ≠ 37) := by simp [plainc, plainB]
theorem plainc_no {c : UInt8} (h : ¬ (33 ≤ c.toNat ∧ c.toNat ≤ 126 ∧ c.toNat ≠ 34 ∧ c.toNat ≠ 37)) : plainc c = false := by
  cases h' : plainc c with
  | false => rfl
  | true => exact absurd (plainc_iff.1 h') h
theorem encb_plain {c : UInt8} (h : plainc c = true) : encb c = [c] := by unfold encb; rw [if_pos h]
theorem encb_esc {c : UInt8} (h : plainc c = false) : encb c = [37, hexd (c.toNat / 16), hexd (c.toNat % 16)] := by unfold encb; rw [h]; rfl
theorem encs_append (x y : List UInt8) : encs (x ++ y) = encs x ++ encs y := by
  induction x with
  | nil => rfl
  | cons c r ih => simp [encs, ih]
theorem encb_len (c : UInt8) : (encb c).length ≤ 3 := by unfold encb; split <;> simp
theorem encb_pos (c : UInt8) : 1 ≤ (encb c).length := by unfold encb; split <;> simp
theorem encs_len (v : List UInt8) : (encs v).length ≤ 3 * v.length := by
  induction v with
  | nil => simp [encs]
  | cons c r ih =>
    have := encb_len c
    simp only [encs, List.length_append, List.length_cons]
    omega
/-- What has been written when k bytes of v are done. -/
def ek (v : List UInt8) (k : Nat) : List UInt8 := encs (v.take k)
theorem ek_succ (v : List UInt8) (k : Nat) (hk : k < v.length) : ek v (k + 1) = ek v k ++ encb v[k] := by
  unfold ek; rw [List.take_succ_eq_append_getElem hk, encs_append]; simp [encs]
theorem ek_len (v : List UInt8) (k : Nat) : (ek v k).length ≤ 3 * v.length := by
  have h1 := encs_len (v.take k)
  have h2 : (v.take k).length ≤ v.length := by rw [List.length_take]; omega
  unfold ek; omega
theorem ek_end (v : List UInt8) (k : Nat) (hk : ¬ k < v.length) : ek v k = encs v := by unfold ek; rw [List.take_of_length_le (by omega)]
/-- A prefix of plain bytes. -/
def Plains (v : List UInt8) (k : Nat) : Prop := ek v k = v.take k
theorem Plains.start (v : List UInt8) : Plains v 0 := by simp [Plains, ek, encs]
theorem Plains.step {v : List UInt8} {k : Nat} (h : Plains v k) (hk : k < v.length) (hc : plainc v[k] = true) : Plains v (k + 1) := by
  unfold Plains at *
  rw [ek_succ v k hk, h, encb_plain hc, List.take_succ_eq_append_getElem hk]
theorem Plains.all {v : List UInt8} {k : Nat} (h : Plains v k) (hk : ¬ k < v.length) : encs v = v := by
  unfold Plains at h
  rw [← ek_end v k hk, h, List.take_of_length_le (by omega)]

/-- At place p of what comes out stands the encoding of what is left of v from k on. -/
def Lft (L v : List UInt8) (k p : Nat) : Prop := L.drop p = encs (v.drop k)
theorem Lft.start (v : List UInt8) : Lft (encs v) v 0 0 := by simp [Lft]
theorem at_drop' {L r : List UInt8} {p : Nat} {x : UInt8} (h : L.drop p = x :: r) : (∀ hp : p < L.length, L[p] = x) ∧ L.drop (p + 1) = r ∧ L.length = p + 1 + r.length := by
  have hp : p < L.length := by
    rcases Nat.lt_or_ge p L.length with hp | hp
    · exact hp
    · rw [List.drop_eq_nil_of_le hp] at h; simp at h
  rw [List.drop_eq_getElem_cons hp] at h
  simp only [List.cons.injEq] at h
  refine ⟨fun _ => h.1, h.2, ?_⟩
  have := congrArg List.length h.2
  rw [List.length_drop] at this
  omega
theorem Lft.one {L v : List UInt8} {k p : Nat} (h : Lft L v k p) (hk : k < v.length) (hc : plainc v[k] = true) : (∀ hp : p < L.length, L[p] = v[k]) ∧ Lft L v (k + 1) (p + 1) ∧ p + 1 ≤ L.length := by
  unfold Lft at h
  rw [List.drop_eq_getElem_cons hk, encs, encb_plain hc] at h
  obtain ⟨h1, h2, h3⟩ := at_drop' (r := encs (v.drop (k + 1))) (by simpa using h)
  exact ⟨h1, h2, by omega⟩
theorem Lft.three {L v : List UInt8} {k p : Nat} (h : Lft L v k p) (hk : k < v.length) (hc : plainc v[k] = false) :
    (∀ hp : p < L.length, L[p] = 37) ∧ (∀ hp : p + 1 < L.length, L[p + 1] = hexd (v[k].toNat / 16)) ∧ (∀ hp : p + 2 < L.length, L[p + 2] = hexd (v[k].toNat % 16)) ∧ Lft L v (k + 1) (p + 3) ∧ p + 3 ≤ L.length := by
  unfold Lft at h
  rw [List.drop_eq_getElem_cons hk, encs, encb_esc hc] at h
  obtain ⟨h1, h2, h3⟩ := at_drop' (r := hexd (v[k].toNat / 16) :: hexd (v[k].toNat % 16) :: encs (v.drop (k + 1))) (by simpa using h)
  obtain ⟨g1, g2, g3⟩ := at_drop' h2
  obtain ⟨f1, f2, f3⟩ := at_drop' g2
  exact ⟨h1, g1, f1, f2, by simp only [List.length_cons] at h3; omega⟩
theorem Lft.fin {L v : List UInt8} {k p : Nat} (h : Lft L v k p) (hk : ¬ k < v.length) : L.length ≤ p := by
  unfold Lft at h
  rw [show v.drop k = [] from List.drop_eq_nil_of_le (by omega)] at h
  have := congrArg List.length h
  rw [List.length_drop] at this
  simp [encs] at this
  omega
end Go.Proofs.Qxb6600368a.Plain
