/-
  No cell of these rows narrows 'for every input' (looked for: loops, veiled, ifaces, maps, wideKeys, modest, calm, conditions, laid).
  DERIVED. THE GIVEN ROWS OF THIS SEAT. 3 by the template 'for every input the law returns true; each argument reads behind the call as it read before'; 0 by the template 'total and deterministic' (their statements: Qxb6600357aTotals.lean).
  GIVEN WITH THE SEED: the statements are not yours to turn. If you find one false, say at which input.
  Laid BY PROGRAM, IN A SANDBOX (cutbox-rows.mjs): the forced cells as the released guide's own fill.sh prints them over the translation 00dac3c7c6f62218… (all of the seat's roots in one cut). By AI agents, Wed Nov 11 2026. No macro, syntax, notation, axiom, sorry.
-/
import Derived.Test.Qxb6600357aChecked
import GoSem.Claim
import GoSem.ClaimJoined
import GoSem.ClaimMapViews
import Derived.JoinedTies
import Derived.KernelRfl
namespace Go.Proofs.Qxb6600357a
/- THE CELL 'sum', in the pinned program and in every row, IS THE sha256 OF THE DUMP (.gsa) THAT Qxb6600357aProg.lean LOADS. Nothing in Lean hashes anything: it is a label: what it is worth is what the hold of that sum in a sandbox is worth. -/
noncomputable def Try.pinned : Pinned := { name := "qxb6600357a", sum := "00dac3c7c6f622186149ea439824e1c1fc99a77a8638c46c2e6a708b6b374754", checked := Try.checked }
namespace Rows
def none {H : Type} : Left H := { results := [], args := [] }

/-- 'zzlaws_root_b1.FnTrimZerosExact': WHATEVER THE INPUT: true; the input reads as it did. -/
def fnTrimZerosExactSpec : ChangeSpec := { name := "fnTrimZerosExact", fn := fun _ => fun
  | [d] => { results := [.lit (.bool true)], args := [d] }
  | _ => none }
def fnTrimZerosExactRow : OpenClaim := { program := "qxb6600357a", sum := "00dac3c7c6f622186149ea439824e1c1fc99a77a8638c46c2e6a708b6b374754", func := "example.com/evenkeel/evenkeel/zzlaws_root_b1.FnTrimZerosExact", spec := "fnTrimZerosExact", apart := false }
def FnTrimZerosExactSaid : Prop := fnTrimZerosExactRow.holds Try.pinned (OpenSpec.ofChange fnTrimZerosExactSpec)

/-- ITS FALSE NEIGHBOUR: 'it returns false'. Refute it at one input. -/
def fnTrimZerosExactWrong : ChangeSpec := { name := "fnTrimZerosExact", fn := fun _ => fun
  | [d] => { results := [.lit (.bool false)], args := [d] }
  | _ => none }
def FnTrimZerosExactWrongFalsely : Prop := fnTrimZerosExactRow.holds Try.pinned (OpenSpec.ofChange fnTrimZerosExactWrong)

/-- 'zzlaws_root_b1.FnTrimZerosUndoesAppendedZeros': WHATEVER THE INPUT: true; the input reads as it did. -/
def fnTrimZerosUndoesAppendedZerosSpec : ChangeSpec := { name := "fnTrimZerosUndoesAppendedZeros", fn := fun _ => fun
  | [d1, d2] => { results := [.lit (.bool true)], args := [d1, d2] }
  | _ => none }
def fnTrimZerosUndoesAppendedZerosRow : OpenClaim := { program := "qxb6600357a", sum := "00dac3c7c6f622186149ea439824e1c1fc99a77a8638c46c2e6a708b6b374754", func := "example.com/evenkeel/evenkeel/zzlaws_root_b1.FnTrimZerosUndoesAppendedZeros", spec := "fnTrimZerosUndoesAppendedZeros", apart := false }
def FnTrimZerosUndoesAppendedZerosSaid : Prop := fnTrimZerosUndoesAppendedZerosRow.holds Try.pinned (OpenSpec.ofChange fnTrimZerosUndoesAppendedZerosSpec)

/-- ITS FALSE NEIGHBOUR: 'it returns false'. Refute it at one input. -/
def fnTrimZerosUndoesAppendedZerosWrong : ChangeSpec := { name := "fnTrimZerosUndoesAppendedZeros", fn := fun _ => fun
  | [d1, d2] => { results := [.lit (.bool false)], args := [d1, d2] }
  | _ => none }
def FnTrimZerosUndoesAppendedZerosWrongFalsely : Prop := fnTrimZerosUndoesAppendedZerosRow.holds Try.pinned (OpenSpec.ofChange fnTrimZerosUndoesAppendedZerosWrong)

/-- 'zzlaws_root_b1.FnTrimZerosIdempotentAndScales': WHATEVER THE INPUT: true; the input reads as it did. -/
def fnTrimZerosIdempotentAndScalesSpec : ChangeSpec := { name := "fnTrimZerosIdempotentAndScales", fn := fun _ => fun
  | [d] => { results := [.lit (.bool true)], args := [d] }
  | _ => none }
def fnTrimZerosIdempotentAndScalesRow : OpenClaim := { program := "qxb6600357a", sum := "00dac3c7c6f622186149ea439824e1c1fc99a77a8638c46c2e6a708b6b374754", func := "example.com/evenkeel/evenkeel/zzlaws_root_b1.FnTrimZerosIdempotentAndScales", spec := "fnTrimZerosIdempotentAndScales", apart := false }
def FnTrimZerosIdempotentAndScalesSaid : Prop := fnTrimZerosIdempotentAndScalesRow.holds Try.pinned (OpenSpec.ofChange fnTrimZerosIdempotentAndScalesSpec)

/-- ITS FALSE NEIGHBOUR: 'it returns false'. Refute it at one input. -/
def fnTrimZerosIdempotentAndScalesWrong : ChangeSpec := { name := "fnTrimZerosIdempotentAndScales", fn := fun _ => fun
  | [d] => { results := [.lit (.bool false)], args := [d] }
  | _ => none }
def FnTrimZerosIdempotentAndScalesWrongFalsely : Prop := fnTrimZerosIdempotentAndScalesRow.holds Try.pinned (OpenSpec.ofChange fnTrimZerosIdempotentAndScalesWrong)

end Rows
end Go.Proofs.Qxb6600357a
