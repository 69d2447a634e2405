/-
  QUOTING, plainly: no Go in sight.
-/
namespace Go.Proofs.Qxb6600368a.Plain

/-- A byte as it stands in a quoted-string: behind a backslash where it must be, or wherever a says so. -/
def esc (a : Bool) (c : UInt8) : List UInt8 := if a = true ∨ c.toNat = 34 ∨ c.toNat = 92 then [92, c] else [c]
def qb : Bool → List UInt8 → List UInt8
  | _, [] => []
  | a, c :: r => esc a c ++ qb a r
/-- The whole quoted-string. -/
def quotedOf (a : Bool) (t : List UInt8) : List UInt8 := 34 :: (qb a t ++ [34])

theorem qb_append (a : Bool) (x y : List UInt8) : qb a (x ++ y) = qb a x ++ qb a y := by
  induction x with
  | nil => rfl
  | cons c r ih => simp [qb, ih]
theorem esc_two {a : Bool} {c : UInt8} (h : a = true ∨ c.toNat = 34 ∨ c.toNat = 92) : esc a c = [92, c] := by unfold esc; rw [if_pos h]
theorem esc_one {a : Bool} {c : UInt8} (h : ¬ (a = true ∨ c.toNat = 34 ∨ c.toNat = 92)) : esc a c = [c] := by unfold esc; rw [if_neg h]
theorem esc_len (a : Bool) (c : UInt8) : (esc a c).length ≤ 2 := by unfold esc; split <;> simp
theorem qb_len (a : Bool) (t : List UInt8) : (qb a t).length ≤ 2 * t.length := by
  induction t with
  | nil => simp [qb]
  | cons c r ih =>
    have := esc_len a c
    simp only [qb, List.length_append, List.length_cons]
    omega

/-- What has been written when k bytes of t have been quoted. -/
def qp (a : Bool) (t : List UInt8) (k : Nat) : List UInt8 := 34 :: qb a (t.take k)
theorem qp_zero (a : Bool) (t : List UInt8) : qp a t 0 = [34] := by simp [qp, qb]
theorem qp_succ (a : Bool) (t : List UInt8) (k : Nat) (hk : k < t.length) : qp a t (k + 1) = qp a t k ++ esc a t[k] := by
  unfold qp; rw [List.take_succ_eq_append_getElem hk, qb_append]; simp [qb]
theorem qp_end (a : Bool) (t : List UInt8) (k : Nat) (hk : ¬ k < t.length) : qp a t k ++ [34] = quotedOf a t := by
  unfold qp quotedOf; rw [List.take_of_length_le (by omega)]; rfl
theorem qp_len (a : Bool) (t : List UInt8) (k : Nat) : (qp a t k).length ≤ 2 * t.length + 1 := by
  have h1 := qb_len a (t.take k)
  have h2 : (t.take k).length ≤ t.length := by rw [List.length_take]; omega
  unfold qp; rw [List.length_cons]; omega

/-- At place p of L stands what is left of t from k on, and the closing quote. -/
def Rem (L : List UInt8) (a : Bool) (t : List UInt8) (k p : Nat) : Prop := L.drop p = qb a (t.drop k) ++ [34]

theorem Rem.start (a : Bool) (t : List UInt8) : Rem (quotedOf a t) a t 0 1 := by simp [Rem, quotedOf]
theorem at_drop {L r : List UInt8} {p : Nat} {x : UInt8} (h : L.drop p = x :: r) : (∀ hp : p < L.length, L[p] = x) ∧ L.drop (p + 1) = r ∧ L.length = p + 1 + r.length := by
  have hp : p < L.length := by
    rcases Nat.lt_or_ge p L.length with hp | hp
    · exact hp
    · rw [List.drop_eq_nil_of_le hp] at h; simp at h
  rw [List.drop_eq_getElem_cons hp] at h
  simp only [List.cons.injEq] at h
  refine ⟨fun _ => h.1, h.2, ?_⟩
  have := congrArg List.length h.2
  rw [List.length_drop] at this
  omega
theorem drop_k {t : List UInt8} {k : Nat} (hk : k < t.length) : t.drop k = t[k] :: t.drop (k + 1) := List.drop_eq_getElem_cons hk

/-- An escaped byte. -/
theorem Rem.two {L : List UInt8} {a : Bool} {t : List UInt8} {k p : Nat} (h : Rem L a t k p) (hk : k < t.length) (he : a = true ∨ t[k].toNat = 34 ∨ t[k].toNat = 92) :
    (∀ hp : p < L.length, L[p] = 92) ∧ (∀ hp : p + 1 < L.length, L[p + 1] = t[k]) ∧ Rem L a t (k + 1) (p + 2) ∧ p + 3 ≤ L.length := by
  unfold Rem at h
  rw [drop_k hk, qb, esc, if_pos he] at h
  obtain ⟨h1, h2, h3⟩ := at_drop (r := t[k] :: (qb a (t.drop (k + 1)) ++ [34])) (by simpa using h)
  obtain ⟨g1, g2, g3⟩ := at_drop h2
  refine ⟨h1, g1, g2, ?_⟩
  simp only [List.length_append, List.length_cons, List.length_nil] at h3
  omega
/-- A plain one. -/
theorem Rem.one {L : List UInt8} {a : Bool} {t : List UInt8} {k p : Nat} (h : Rem L a t k p) (hk : k < t.length) (he : ¬ (a = true ∨ t[k].toNat = 34 ∨ t[k].toNat = 92)) :
    (∀ hp : p < L.length, L[p] = t[k]) ∧ Rem L a t (k + 1) (p + 1) ∧ p + 2 ≤ L.length := by
  unfold Rem at h
  rw [drop_k hk, qb, esc, if_neg he] at h
  obtain ⟨h1, h2, h3⟩ := at_drop (r := qb a (t.drop (k + 1)) ++ [34]) (by simpa using h)
  refine ⟨h1, h2, ?_⟩
  simp only [List.length_append, List.length_cons, List.length_nil] at h3
  omega
/-- The end. -/
theorem Rem.fin {L : List UInt8} {a : Bool} {t : List UInt8} {k p : Nat} (h : Rem L a t k p) (hk : ¬ k < t.length) : L.length = p + 1 := by
  unfold Rem at h
  rw [show t.drop k = [] from List.drop_eq_nil_of_le (by omega)] at h
  obtain ⟨_, _, h3⟩ := at_drop (r := []) (by simpa [qb] using h)
  simpa using h3
theorem quoted_first (a : Bool) (t : List UInt8) (h : 0 < (quotedOf a t).length) : (quotedOf a t)[0] = 34 := rfl
theorem quoted_last (a : Bool) (t : List UInt8) (h : (quotedOf a t).length - 1 < (quotedOf a t).length) : (quotedOf a t)[(quotedOf a t).length - 1] = 34 := by
  unfold quotedOf
  simp
theorem quoted_len (a : Bool) (t : List UInt8) : (quotedOf a t).length = (qb a t).length + 2 := by simp [quotedOf]
theorem byteArray_size (L : List UInt8) : (⟨L.toArray⟩ : ByteArray).size = L.length := by show L.toArray.size = _; simp
theorem byteArray_get (L : List UInt8) (i : Nat) (h : i < (⟨L.toArray⟩ : ByteArray).size) : (⟨L.toArray⟩ : ByteArray)[i] = L[i]'(by rw [← byteArray_size]; exact h) := rfl
end Go.Proofs.Qxb6600368a.Plain
