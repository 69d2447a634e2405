/-
  THE PROOF OF 'Rows.FnTrimZerosUndoesAppendedZerosSaid': the guide's shell with its walk filled in.
-/
import Derived.Test.Qxb6600357aRows
import Derived.Test.Qxb6600357aTrim
import Derived.WalkKit
import Derived.ProofKit
import Derived.OpenShut
import Derived.ShutString
namespace Go.Proofs.Qxb6600357a.fnTrimZerosUndoesAppendedZeros
open Go.ChangeShapes Go.WideShapes Go.ChangeAt Go.RowKit
open Go.ChangeMaps (open_string shut_string)
open Go.Proofs.Qxb6600357a.Plain Go.Proofs.Qxb6600357a.Walks
set_option linter.unusedVariables false      -- a walk need not use every 'w<i>' (that an integer argument fits its kind)

theorem own : ownKnob Try.prog.godebug = none := by kernel_rfl

/-! ### STEP 1: THE WALK: the Go text returns true. 'Grown w w'': the world has at most new blocks (Derived/RowKit3.lean). Part the cases AHEAD of 'go_enter' where a test parts the walk; take each callee by a contract of your own. -/
theorem walk (a0 : Int) (a1 : Int) (w0 : (Lit.int .u64 a0).wf = true) (w1 : (Lit.int .i64 a1).wf = true) (w : World) :
    Calls Try.prog 4 #[.int .u64 a0, .int .i64 a1] w fun e w' => e = .returned (.bool true) ∧ Grown w w' := by
  obtain ⟨b0, b1⟩ : 0 ≤ a0 ∧ a0 ≤ 18446744073709551615 := by simpa [Lit.wf, IntKind.min, IntKind.max, IntKind.signed, IntKind.bits] using w0
  clear w0 w1
  by_cases hk0 : a1 < 0
  · go_enter Try.func4, Try.ntmps4
    go_wp2
    go_ret
    exact ⟨rfl, by repeat (first | exact Grown.refl _ | apply Grown.drew | apply Grown.alloc)⟩
  by_cases hk1 : 19 < a1
  · go_enter Try.func4, Try.ntmps4
    go_wp2
    go_ret
    exact ⟨rfl, by repeat (first | exact Grown.refl _ | apply Grown.drew | apply Grown.alloc)⟩
  obtain ⟨k, rfl⟩ := Int.eq_ofNat_of_zero_le (show 0 ≤ a1 by omega)
  have hk : k ≤ 19 := by omega
  by_cases hq : a0 % 10 = 0
  · have hq' : (a0 % 10 == 0) = true := beq_iff_eq.2 hq
    clear hq
    go_enter Try.func4, Try.ntmps4
    go_wp2
    go_ret
    exact ⟨rfl, by repeat (first | exact Grown.refl _ | apply Grown.drew | apply Grown.alloc)⟩
  have hq' : (a0 % 10 == 0) = false := beq_eq_false_iff_ne.2 hq
  have hp := pow_pos' k
  have hp1 := pow_le19 hk
  have hT := fun h1 => Trimmed.times (k := k) b0 hq h1
  have hdiv : a0 ≤ 18446744073709551615 / (10 : Int) ^ k → a0 * 10 ^ k ≤ 18446744073709551615 := (Int.le_ediv_iff_mul_le hp).1
  have hnn : 0 ≤ a0 * 10 ^ k := Int.mul_nonneg b0 (Int.le_of_lt hp)
  generalize hP : (10 : Int) ^ k = P at hp hp1 hT hdiv hnn
  have HP : Hid ((10 : Int) ^ k = P) := hP
  clear hP hq
  by_cases hbig : 18446744073709551615 / P < a0
  · clear hT hdiv
    go_enter Try.func4, Try.ntmps4
    go_wp2_with fail
    refine (pow_any k hk _).mono ?_
    rintro e w' ⟨p, rfl, hpp, rfl⟩
    rw [HP.out] at hpp
    subst hpp
    go_wp2
    go_ret
    exact ⟨rfl, by repeat (first | exact Grown.refl _ | apply Grown.drew | apply Grown.alloc)⟩
  · have hmul := hdiv (by omega)
    have HT : Hid (Trimmed (a0 * P) a0 k) := hT hmul
    clear hT hdiv
    go_enter Try.func4, Try.ntmps4
    go_wp2_with fail
    refine (pow_any k hk _).mono ?_
    rintro e w' ⟨p, rfl, hpp, rfl⟩
    rw [HP.out] at hpp
    subst hpp
    go_wp2_with fail
    refine (zztrim_any _ hnn hmul _).mono ?_
    rintro e w' ⟨q, n, rfl, ht, rfl⟩
    obtain ⟨rfl, rfl⟩ := HT.out.unique ht
    clear ht
    go_wp2
    go_ret
    exact ⟨rfl, by repeat (first | exact Grown.refl _ | apply Grown.drew | apply Grown.alloc)⟩

/-! ### THE ROW's STEP: WRITTEN OUT: LEAVE IT -/
set_option maxRecDepth 100000 in
theorem lifted (os : Os) (started : os.Started) (H : Type) (enc : TypeId × Value → H) :
    ReturnsInHanded {} Try.checked os 4 .any (Rows.fnTrimZerosUndoesAppendedZerosSpec.pre6 enc Try.prog Try.f4 Rows.fnTrimZerosUndoesAppendedZerosRow.domain false) (Rows.fnTrimZerosUndoesAppendedZerosSpec.post enc Try.prog Try.f4 false true false false) := by
  refine returnsInHanded_of_change (C := Try.checked) own started (by kernel_rfl) Try.func4
    (ChangeSpec.witness6 (enc := enc) (C := Try.checked) false ⟨#[], #[.int .u64 0, .int .i64 0], []⟩ 8 (by kernel_rfl) (by kernel_rfl) (by kernel_rfl) (by kernel_rfl)) ?_
  intro W base args ds gs before hval0 hW hcnd _
  have hval : ∀ (j : Nat) t v, Try.f4.params[j]? = some t → args[j]? = some v → Value.okWide Try.prog W .any base t v := hval0
  have hW' := hW
  obtain ⟨p, q, hA0, hV, rfl, hfz, hnd⟩ := hW
  have hA : DataW.TrodAll enc Try.prog W 0 (fun _ => true) true Try.f4.params.toList args.toList ds p := hA0
  rw [Try.params4] at hA hval
  obtain ⟨v0, vs0, d0, ds0, p0, q0, hargs, rfl, rfl, h0, r0⟩ := trodAll_cons hA
  obtain ⟨v1, vs1, d1, ds1, p1, q1, rfl, rfl, rfl, h1, r1⟩ := trodAll_cons r0
  obtain ⟨rfl, rfl, rfl⟩ := trodAll_nil r1
  obtain rfl : args = #[v0, v1] := by cases args; simp_all
  obtain ⟨rfl, rfl⟩ := trodVars_none hV
  obtain ⟨a0, rfl, rfl, rfl, w0⟩ := open_int Try.underlying22 (hval 0 22 v0 rfl rfl) h0
  obtain ⟨a1, rfl, rfl, rfl, w1⟩ := open_int Try.underlying3 (hval 1 3 v1 rfl rfl) h1
  clear hA0 hval0
  simp only [List.append_nil] at hW'
  refine (walk a0 a1 w0 w1 W).mono fun e W' ⟨he, hg⟩ => ?_
  subst he
  exact ⟨_, rfl, post_of_same (pa := []) (pv := []) hW' (fun _ _ _ => (trodAll_cons_mk (shut_bool Try.underlying4 _) trodAll_mk0)) (fun sp _ => (trodAll_cons_mk (shut_int Try.underlying22 w0) (trodAll_cons_mk (shut_int Try.underlying3 w1) trodAll_mk0))) (fun _ _ => rfl) rfl
    (hg.frame _) hg.2.1 (ok_one (by kernel_rfl) rfl (okWide_bool_mk Try.underlying4 _))⟩

theorem over : Rows.fnTrimZerosUndoesAppendedZerosRow.holds Try.pinned (OpenSpec.ofChange Rows.fnTrimZerosUndoesAppendedZerosSpec) :=
  OpenClaim.holds_of_wide 4 Try.f4 rfl rfl rfl rfl rfl rfl rfl ⟨rfl, rfl, rfl, rfl, rfl⟩ rfl rfl rfl rfl rfl (by kernel_rfl) Try.func4 (by kernel_rfl)
    (of_decide_eq_true (by kernel_rfl)) (by unfold Func.isWrapper; first | (rw [if_pos (by decide +kernel)]; kernel_rfl) | (rw [if_neg (by decide +kernel)]; exact ⟨rfl, rfl⟩))
    (fun os started H enc _ => lifted os started H enc)

/-- ████ THE STATEMENT ████ -/
theorem proved : Rows.FnTrimZerosUndoesAppendedZerosSaid :=
  over
#print axioms proved
end Go.Proofs.Qxb6600357a.fnTrimZerosUndoesAppendedZeros
