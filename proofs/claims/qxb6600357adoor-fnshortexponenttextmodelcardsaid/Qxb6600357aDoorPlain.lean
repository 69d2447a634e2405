/-
  THE PLAIN FUNCTION of shortExponentText: no Go in sight. Bytes are UInt8; 'Lib.itoa' is the library's decimal numeral.
-/
import Derived.Lib.ItoaNum
namespace Go.Proofs.Qxb6600357aDoor.Plain

/-- The significant digits that a text begins with: '-' and '.' are passed over, leading zeros too (b: has a digit been taken?); the first other byte ends it. -/
def sig : Bool → List UInt8 → List UInt8
  | _, [] => []
  | b, c :: r =>
    if c.toNat = 45 ∨ c.toNat = 46 ∨ (c.toNat = 48 ∧ b = false) then sig b r
    else if c.toNat < 48 ∨ 57 < c.toNat then []
    else c :: sig true r

theorem sig_skip {b : Bool} {c : UInt8} {r : List UInt8} (h : c.toNat = 45 ∨ c.toNat = 46 ∨ (c.toNat = 48 ∧ b = false)) : sig b (c :: r) = sig b r := by
  rw [sig, if_pos h]
theorem sig_stop {b : Bool} {c : UInt8} {r : List UInt8} (h : ¬ (c.toNat = 45 ∨ c.toNat = 46 ∨ (c.toNat = 48 ∧ b = false))) (h2 : c.toNat < 48 ∨ 57 < c.toNat) : sig b (c :: r) = [] := by
  rw [sig, if_neg h, if_pos h2]
theorem sig_take {b : Bool} {c : UInt8} {r : List UInt8} (h : ¬ (c.toNat = 45 ∨ c.toNat = 46 ∨ (c.toNat = 48 ∧ b = false))) (h2 : ¬ (c.toNat < 48 ∨ 57 < c.toNat)) : sig b (c :: r) = c :: sig true r := by
  rw [sig, if_neg h, if_neg h2]

/-- What has been gathered (acc) at place k of the text l: the rest yields what is still lacking. -/
def At (l : List UInt8) (k : Nat) (acc : List UInt8) : Prop := acc ++ sig (!acc.isEmpty) (l.drop k) = sig false l

theorem At.start (l : List UInt8) : At l 0 [] := by simp [At]
theorem drop_at {l : List UInt8} {k : Nat} (hk : k < l.length) : l.drop k = l[k] :: l.drop (k + 1) := List.drop_eq_getElem_cons hk
theorem At.skip {l acc : List UInt8} {k : Nat} (h : At l k acc) (hk : k < l.length) (hc : l[k].toNat = 45 ∨ l[k].toNat = 46 ∨ (l[k].toNat = 48 ∧ acc = [])) : At l (k + 1) acc := by
  unfold At at *
  rw [drop_at hk, sig_skip] at h
  · exact h
  · rcases hc with hc | hc | hc
    · exact Or.inl hc
    · exact Or.inr (Or.inl hc)
    · exact Or.inr (Or.inr ⟨hc.1, by simp [hc.2]⟩)
theorem At.stop {l acc : List UInt8} {k : Nat} (h : At l k acc) (hk : k < l.length) (h1 : l[k].toNat ≠ 45) (h2 : l[k].toNat ≠ 46) (h3 : l[k].toNat < 48 ∨ 57 < l[k].toNat) : acc = sig false l := by
  unfold At at h
  rw [drop_at hk, sig_stop (by omega) h3] at h
  simpa using h
theorem At.take {l acc : List UInt8} {k : Nat} (h : At l k acc) (hk : k < l.length) (h1 : ¬ (l[k].toNat = 48 ∧ acc = [])) (h3 : 48 ≤ l[k].toNat) (h4 : l[k].toNat ≤ 57) : At l (k + 1) (acc ++ [l[k]]) := by
  unfold At at *
  rw [drop_at hk, sig_take (by
    intro hh
    rcases hh with hh | hh | hh
    · omega
    · omega
    · exact h1 ⟨hh.1, by simpa using hh.2⟩) (by omega)] at h
  have e : (!(acc ++ [l[k]]).isEmpty) = true := by cases acc <;> rfl
  rw [e, List.append_assoc]
  exact h
theorem At.fin {l acc : List UInt8} {k : Nat} (h : At l k acc) (hk : ¬ k < l.length) : acc = sig false l := by
  unfold At at h
  rw [List.drop_eq_nil_of_le (by omega)] at h
  simpa [sig] using h

/-- What shortExponentText answers, as bytes: n is the wrapped point + 1. -/
def short (l : List UInt8) (n : Int) : List UInt8 := 48 :: 46 :: (sig false l ++ 101 :: Lib.itoa n)

end Go.Proofs.Qxb6600357aDoor.Plain
