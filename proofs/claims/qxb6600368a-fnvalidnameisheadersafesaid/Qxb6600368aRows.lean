/-
  No cell of these rows narrows 'for every input' (looked for: loops, veiled, ifaces, maps, wideKeys, modest, calm, conditions, laid).
  DERIVED. THE GIVEN ROWS OF THIS SEAT. 7 by the template 'for every input the law returns true; each argument reads behind the call as it read before'; 0 by the template 'total and deterministic' (their statements: Qxb6600368aTotals.lean).
  GIVEN WITH THE SEED: the statements are not yours to turn. If you find one false, say at which input.
  Laid BY PROGRAM, IN A SANDBOX (cutbox-rows.mjs): the forced cells as the released guide's own fill.sh prints them over the translation 66a240d658abbaba… (all of the seat's roots in one cut). By AI agents, Wed Nov 11 2026. No macro, syntax, notation, axiom, sorry.
-/
import Derived.Test.Qxb6600368aChecked
import GoSem.Claim
import GoSem.ClaimJoined
import GoSem.ClaimMapViews
import Derived.JoinedTies
import Derived.KernelRfl
namespace Go.Proofs.Qxb6600368a
/- THE CELL 'sum', in the pinned program and in every row, IS THE sha256 OF THE DUMP (.gsa) THAT Qxb6600368aProg.lean LOADS. Nothing in Lean hashes anything: it is a label: what it is worth is what the hold of that sum in a sandbox is worth. -/
noncomputable def Try.pinned : Pinned := { name := "qxb6600368a", sum := "66a240d658abbabaa098efed37ec2058e69338a516268588febf223d4bb19491", checked := Try.checked }
namespace Rows
def none {H : Type} : Left H := { results := [], args := [] }

/-- 'zzlaws_internal_event_b1.FnEncodeHeaderValueExact': WHATEVER THE INPUT: true; the input reads as it did. -/
def fnEncodeHeaderValueExactSpec : ChangeSpec := { name := "fnEncodeHeaderValueExact", fn := fun _ => fun
  | [d] => { results := [.lit (.bool true)], args := [d] }
  | _ => none }
def fnEncodeHeaderValueExactRow : OpenClaim := { program := "qxb6600368a", sum := "66a240d658abbabaa098efed37ec2058e69338a516268588febf223d4bb19491", func := "example.com/dispatch-broker/dispatch-broker/zzlaws_internal_event_b1.FnEncodeHeaderValueExact", spec := "fnEncodeHeaderValueExact", inPlace := ["internal/abi.NoEscape", "internal/bytealg.MakeNoZero"], unfollowed := true, recurses := true, apart := false }
def FnEncodeHeaderValueExactSaid : Prop := fnEncodeHeaderValueExactRow.holds Try.pinned (OpenSpec.ofChange fnEncodeHeaderValueExactSpec)

/-- ITS FALSE NEIGHBOUR: 'it returns false'. Refute it at one input. -/
def fnEncodeHeaderValueExactWrong : ChangeSpec := { name := "fnEncodeHeaderValueExact", fn := fun _ => fun
  | [d] => { results := [.lit (.bool false)], args := [d] }
  | _ => none }
def FnEncodeHeaderValueExactWrongFalsely : Prop := fnEncodeHeaderValueExactRow.holds Try.pinned (OpenSpec.ofChange fnEncodeHeaderValueExactWrong)

/-- 'zzlaws_internal_event_b1.FnEncodeHeaderValueConcat': WHATEVER THE INPUT: true; the input reads as it did. -/
def fnEncodeHeaderValueConcatSpec : ChangeSpec := { name := "fnEncodeHeaderValueConcat", fn := fun _ => fun
  | [d1, d2] => { results := [.lit (.bool true)], args := [d1, d2] }
  | _ => none }
def fnEncodeHeaderValueConcatRow : OpenClaim := { program := "qxb6600368a", sum := "66a240d658abbabaa098efed37ec2058e69338a516268588febf223d4bb19491", func := "example.com/dispatch-broker/dispatch-broker/zzlaws_internal_event_b1.FnEncodeHeaderValueConcat", spec := "fnEncodeHeaderValueConcat", inPlace := ["internal/abi.NoEscape", "internal/bytealg.MakeNoZero"], unfollowed := true, recurses := true, apart := false }
def FnEncodeHeaderValueConcatSaid : Prop := fnEncodeHeaderValueConcatRow.holds Try.pinned (OpenSpec.ofChange fnEncodeHeaderValueConcatSpec)

/-- ITS FALSE NEIGHBOUR: 'it returns false'. Refute it at one input. -/
def fnEncodeHeaderValueConcatWrong : ChangeSpec := { name := "fnEncodeHeaderValueConcat", fn := fun _ => fun
  | [d1, d2] => { results := [.lit (.bool false)], args := [d1, d2] }
  | _ => none }
def FnEncodeHeaderValueConcatWrongFalsely : Prop := fnEncodeHeaderValueConcatRow.holds Try.pinned (OpenSpec.ofChange fnEncodeHeaderValueConcatWrong)

/-- 'zzlaws_internal_event_b1.FnValidNameConcat': WHATEVER THE INPUT: true; the input reads as it did. -/
def fnValidNameConcatSpec : ChangeSpec := { name := "fnValidNameConcat", fn := fun _ => fun
  | [d1, d2] => { results := [.lit (.bool true)], args := [d1, d2] }
  | _ => none }
def fnValidNameConcatRow : OpenClaim := { program := "qxb6600368a", sum := "66a240d658abbabaa098efed37ec2058e69338a516268588febf223d4bb19491", func := "example.com/dispatch-broker/dispatch-broker/zzlaws_internal_event_b1.FnValidNameConcat", spec := "fnValidNameConcat", apart := false }
def FnValidNameConcatSaid : Prop := fnValidNameConcatRow.holds Try.pinned (OpenSpec.ofChange fnValidNameConcatSpec)

/-- ITS FALSE NEIGHBOUR: 'it returns false'. Refute it at one input. -/
def fnValidNameConcatWrong : ChangeSpec := { name := "fnValidNameConcat", fn := fun _ => fun
  | [d1, d2] => { results := [.lit (.bool false)], args := [d1, d2] }
  | _ => none }
def FnValidNameConcatWrongFalsely : Prop := fnValidNameConcatRow.holds Try.pinned (OpenSpec.ofChange fnValidNameConcatWrong)

/-- 'zzlaws_internal_event_b1.FnValidNameIsHeaderSafe': WHATEVER THE INPUT: true; the input reads as it did. -/
def fnValidNameIsHeaderSafeSpec : ChangeSpec := { name := "fnValidNameIsHeaderSafe", fn := fun _ => fun
  | [d] => { results := [.lit (.bool true)], args := [d] }
  | _ => none }
def fnValidNameIsHeaderSafeRow : OpenClaim := { program := "qxb6600368a", sum := "66a240d658abbabaa098efed37ec2058e69338a516268588febf223d4bb19491", func := "example.com/dispatch-broker/dispatch-broker/zzlaws_internal_event_b1.FnValidNameIsHeaderSafe", spec := "fnValidNameIsHeaderSafe", inPlace := ["internal/abi.NoEscape", "internal/bytealg.MakeNoZero"], unfollowed := true, recurses := true, apart := false }
def FnValidNameIsHeaderSafeSaid : Prop := fnValidNameIsHeaderSafeRow.holds Try.pinned (OpenSpec.ofChange fnValidNameIsHeaderSafeSpec)

/-- ITS FALSE NEIGHBOUR: 'it returns false'. Refute it at one input. -/
def fnValidNameIsHeaderSafeWrong : ChangeSpec := { name := "fnValidNameIsHeaderSafe", fn := fun _ => fun
  | [d] => { results := [.lit (.bool false)], args := [d] }
  | _ => none }
def FnValidNameIsHeaderSafeWrongFalsely : Prop := fnValidNameIsHeaderSafeRow.holds Try.pinned (OpenSpec.ofChange fnValidNameIsHeaderSafeWrong)

/-- 'zzlaws_internal_event_b1.FnUnquoteModel': WHATEVER THE INPUT: true; the input reads as it did. -/
def fnUnquoteModelSpec : ChangeSpec := { name := "fnUnquoteModel", fn := fun _ => fun
  | [d] => { results := [.lit (.bool true)], args := [d] }
  | _ => none }
def fnUnquoteModelRow : OpenClaim := { program := "qxb6600368a", sum := "66a240d658abbabaa098efed37ec2058e69338a516268588febf223d4bb19491", func := "example.com/dispatch-broker/dispatch-broker/zzlaws_internal_event_b1.FnUnquoteModel", spec := "fnUnquoteModel", inPlace := ["internal/abi.NoEscape"], apart := false }
def FnUnquoteModelSaid : Prop := fnUnquoteModelRow.holds Try.pinned (OpenSpec.ofChange fnUnquoteModelSpec)

/-- ITS FALSE NEIGHBOUR: 'it returns false'. Refute it at one input. -/
def fnUnquoteModelWrong : ChangeSpec := { name := "fnUnquoteModel", fn := fun _ => fun
  | [d] => { results := [.lit (.bool false)], args := [d] }
  | _ => none }
def FnUnquoteModelWrongFalsely : Prop := fnUnquoteModelRow.holds Try.pinned (OpenSpec.ofChange fnUnquoteModelWrong)

/-- 'zzlaws_internal_event_b1.FnUnquoteInvertsQuote': WHATEVER THE INPUT: true; the input reads as it did. -/
def fnUnquoteInvertsQuoteSpec : ChangeSpec := { name := "fnUnquoteInvertsQuote", fn := fun _ => fun
  | [d1, d2] => { results := [.lit (.bool true)], args := [d1, d2] }
  | _ => none }
def fnUnquoteInvertsQuoteRow : OpenClaim := { program := "qxb6600368a", sum := "66a240d658abbabaa098efed37ec2058e69338a516268588febf223d4bb19491", func := "example.com/dispatch-broker/dispatch-broker/zzlaws_internal_event_b1.FnUnquoteInvertsQuote", spec := "fnUnquoteInvertsQuote", inPlace := ["internal/abi.NoEscape"], apart := false }
def FnUnquoteInvertsQuoteSaid : Prop := fnUnquoteInvertsQuoteRow.holds Try.pinned (OpenSpec.ofChange fnUnquoteInvertsQuoteSpec)

/-- ITS FALSE NEIGHBOUR: 'it returns false'. Refute it at one input. -/
def fnUnquoteInvertsQuoteWrong : ChangeSpec := { name := "fnUnquoteInvertsQuote", fn := fun _ => fun
  | [d1, d2] => { results := [.lit (.bool false)], args := [d1, d2] }
  | _ => none }
def FnUnquoteInvertsQuoteWrongFalsely : Prop := fnUnquoteInvertsQuoteRow.holds Try.pinned (OpenSpec.ofChange fnUnquoteInvertsQuoteWrong)

/-- 'zzlaws_internal_event_b1.FnUnquoteNothingMayFollow': WHATEVER THE INPUT: true; the input reads as it did. -/
def fnUnquoteNothingMayFollowSpec : ChangeSpec := { name := "fnUnquoteNothingMayFollow", fn := fun _ => fun
  | [d1, d2] => { results := [.lit (.bool true)], args := [d1, d2] }
  | _ => none }
def fnUnquoteNothingMayFollowRow : OpenClaim := { program := "qxb6600368a", sum := "66a240d658abbabaa098efed37ec2058e69338a516268588febf223d4bb19491", func := "example.com/dispatch-broker/dispatch-broker/zzlaws_internal_event_b1.FnUnquoteNothingMayFollow", spec := "fnUnquoteNothingMayFollow", inPlace := ["internal/abi.NoEscape"], apart := false }
def FnUnquoteNothingMayFollowSaid : Prop := fnUnquoteNothingMayFollowRow.holds Try.pinned (OpenSpec.ofChange fnUnquoteNothingMayFollowSpec)

/-- ITS FALSE NEIGHBOUR: 'it returns false'. Refute it at one input. -/
def fnUnquoteNothingMayFollowWrong : ChangeSpec := { name := "fnUnquoteNothingMayFollow", fn := fun _ => fun
  | [d1, d2] => { results := [.lit (.bool false)], args := [d1, d2] }
  | _ => none }
def FnUnquoteNothingMayFollowWrongFalsely : Prop := fnUnquoteNothingMayFollowRow.holds Try.pinned (OpenSpec.ofChange fnUnquoteNothingMayFollowWrong)

end Rows
end Go.Proofs.Qxb6600368a
