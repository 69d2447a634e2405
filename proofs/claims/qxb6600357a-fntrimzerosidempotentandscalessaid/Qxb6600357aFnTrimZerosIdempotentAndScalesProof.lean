/-
  THE PROOF OF 'Rows.FnTrimZerosIdempotentAndScalesSaid': the guide's shell with its walk filled in.
-/
import Derived.Test.Qxb6600357aRows
import Derived.Test.Qxb6600357aTrim
import Derived.WalkKit
import Derived.ProofKit
import Derived.OpenShut
import Derived.ShutString
namespace Go.Proofs.Qxb6600357a.fnTrimZerosIdempotentAndScales
open Go.ChangeShapes Go.WideShapes Go.ChangeAt Go.RowKit
open Go.ChangeMaps (open_string shut_string)
open Go.Proofs.Qxb6600357a.Plain Go.Proofs.Qxb6600357a.Walks
set_option linter.unusedVariables false      -- a walk need not use every 'w<i>' (that an integer argument fits its kind)

theorem own : ownKnob Try.prog.godebug = none := by kernel_rfl

/-! ### STEP 1: THE WALK: the Go text returns true. 'Grown w w'': the world has at most new blocks (Derived/RowKit3.lean). Part the cases AHEAD of 'go_enter' where a test parts the walk; take each callee by a contract of your own. -/
theorem walk (a0 : Int) (w0 : (Lit.int .u64 a0).wf = true) (w : World) :
    Calls Try.prog 5 #[.int .u64 a0] w fun e w' => e = .returned (.bool true) ∧ Grown w w' := by
  obtain ⟨b0, b1⟩ : 0 ≤ a0 ∧ a0 ≤ 18446744073709551615 := by simpa [Lit.wf, IntKind.min, IntKind.max, IntKind.signed, IntKind.bits] using w0
  clear w0
  have h01 : (a0 != 0) = true ∧ 0 < a0 ∨ (a0 != 0) = false := by
    by_cases h : a0 = 0
    · exact Or.inr (bne_eq_false_iff_eq.2 h)
    · exact Or.inl ⟨bne_iff_ne.2 h, by omega⟩
  rcases h01 with ⟨hne, hpos⟩ | hne
  · by_cases hle : a0 ≤ 1844674407370955161
    · go_enter Try.func5, Try.ntmps5
      go_wp2_with fail
      refine (zztrim_any _ b0 b1 _).mono ?_
      rintro e w' ⟨q, n, rfl, ht, rfl⟩
      have hn : n ≤ 19 := ht.2.2.2.1
      have hq0 : 0 ≤ q := ht.2.1
      have hq1 : q ≤ 18446744073709551615 := ht.2.2.1
      go_wp2_with fail
      refine (zztrim_any _ hq0 hq1 _).mono ?_
      rintro e w' ⟨q2, n2, rfl, ht2, rfl⟩
      obtain ⟨rfl, rfl⟩ := ht.again.unique ht2
      have h10 := ht.times10 hpos (by omega)
      clear ht2
      go_wp2_with fail
      refine (zztrim_any _ (by omega) (by omega) _).mono ?_
      rintro e w' ⟨q3, n3, rfl, ht3, rfl⟩
      obtain ⟨rfl, rfl⟩ := h10.unique ht3
      clear ht3
      go_wp2
      go_ret
      exact ⟨rfl, by repeat (first | exact Grown.refl _ | apply Grown.drew | apply Grown.alloc)⟩
    · go_enter Try.func5, Try.ntmps5
      go_wp2_with fail
      refine (zztrim_any _ b0 b1 _).mono ?_
      rintro e w' ⟨q, n, rfl, ht, rfl⟩
      have hq0 : 0 ≤ q := ht.2.1
      have hq1 : q ≤ 18446744073709551615 := ht.2.2.1
      go_wp2_with fail
      refine (zztrim_any _ hq0 hq1 _).mono ?_
      rintro e w' ⟨q2, n2, rfl, ht2, rfl⟩
      obtain ⟨rfl, rfl⟩ := ht.again.unique ht2
      go_wp2
      go_ret
      exact ⟨rfl, by repeat (first | exact Grown.refl _ | apply Grown.drew | apply Grown.alloc)⟩
  · go_enter Try.func5, Try.ntmps5
    go_wp2_with fail
    refine (zztrim_any _ b0 b1 _).mono ?_
    rintro e w' ⟨q, n, rfl, ht, rfl⟩
    have hq0 : 0 ≤ q := ht.2.1
    have hq1 : q ≤ 18446744073709551615 := ht.2.2.1
    go_wp2_with fail
    refine (zztrim_any _ hq0 hq1 _).mono ?_
    rintro e w' ⟨q2, n2, rfl, ht2, rfl⟩
    obtain ⟨rfl, rfl⟩ := ht.again.unique ht2
    go_wp2
    go_ret
    exact ⟨rfl, by repeat (first | exact Grown.refl _ | apply Grown.drew | apply Grown.alloc)⟩

/-! ### THE ROW's STEP: WRITTEN OUT: LEAVE IT -/
set_option maxRecDepth 100000 in
theorem lifted (os : Os) (started : os.Started) (H : Type) (enc : TypeId × Value → H) :
    ReturnsInHanded {} Try.checked os 5 .any (Rows.fnTrimZerosIdempotentAndScalesSpec.pre6 enc Try.prog Try.f5 Rows.fnTrimZerosIdempotentAndScalesRow.domain false) (Rows.fnTrimZerosIdempotentAndScalesSpec.post enc Try.prog Try.f5 false true false false) := by
  refine returnsInHanded_of_change (C := Try.checked) own started (by kernel_rfl) Try.func5
    (ChangeSpec.witness6 (enc := enc) (C := Try.checked) false ⟨#[], #[.int .u64 0], []⟩ 8 (by kernel_rfl) (by kernel_rfl) (by kernel_rfl) (by kernel_rfl)) ?_
  intro W base args ds gs before hval0 hW hcnd _
  have hval : ∀ (j : Nat) t v, Try.f5.params[j]? = some t → args[j]? = some v → Value.okWide Try.prog W .any base t v := hval0
  have hW' := hW
  obtain ⟨p, q, hA0, hV, rfl, hfz, hnd⟩ := hW
  have hA : DataW.TrodAll enc Try.prog W 0 (fun _ => true) true Try.f5.params.toList args.toList ds p := hA0
  rw [Try.params5] at hA hval
  obtain ⟨v0, vs0, d0, ds0, p0, q0, hargs, rfl, rfl, h0, r0⟩ := trodAll_cons hA
  obtain ⟨rfl, rfl, rfl⟩ := trodAll_nil r0
  obtain rfl : args = #[v0] := by cases args; simp_all
  obtain ⟨rfl, rfl⟩ := trodVars_none hV
  obtain ⟨a0, rfl, rfl, rfl, w0⟩ := open_int Try.underlying22 (hval 0 22 v0 rfl rfl) h0
  clear hA0 hval0
  simp only [List.append_nil] at hW'
  refine (walk a0 w0 W).mono fun e W' ⟨he, hg⟩ => ?_
  subst he
  exact ⟨_, rfl, post_of_same (pa := []) (pv := []) hW' (fun _ _ _ => (trodAll_cons_mk (shut_bool Try.underlying4 _) trodAll_mk0)) (fun sp _ => (trodAll_cons_mk (shut_int Try.underlying22 w0) trodAll_mk0)) (fun _ _ => rfl) rfl
    (hg.frame _) hg.2.1 (ok_one (by kernel_rfl) rfl (okWide_bool_mk Try.underlying4 _))⟩

theorem over : Rows.fnTrimZerosIdempotentAndScalesRow.holds Try.pinned (OpenSpec.ofChange Rows.fnTrimZerosIdempotentAndScalesSpec) :=
  OpenClaim.holds_of_wide 5 Try.f5 rfl rfl rfl rfl rfl rfl rfl ⟨rfl, rfl, rfl, rfl, rfl⟩ rfl rfl rfl rfl rfl (by kernel_rfl) Try.func5 (by kernel_rfl)
    (of_decide_eq_true (by kernel_rfl)) (by unfold Func.isWrapper; first | (rw [if_pos (by decide +kernel)]; kernel_rfl) | (rw [if_neg (by decide +kernel)]; exact ⟨rfl, rfl⟩))
    (fun os started H enc _ => lifted os started H enc)

/-- ████ THE STATEMENT ████ -/
theorem proved : Rows.FnTrimZerosIdempotentAndScalesSaid :=
  over
#print axioms proved
end Go.Proofs.Qxb6600357a.fnTrimZerosIdempotentAndScales
