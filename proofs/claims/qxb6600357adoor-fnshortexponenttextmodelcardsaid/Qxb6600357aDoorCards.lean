/-
  DERIVED. GIVEN WITH THE SEED: THE CARDS: each row of Qxb6600357aDoorRows.lean that lists a variable, with what it lists TIED to the program's text (the seventh form; the later family's looks); each row that meets fmt, with fmt's text TOLD by the authors' own Lean function (tested against real Go, not proved from fmt's source: count such statements apart). THE CARD IS WHAT COUNTS. Prove the row's statement (the work); the ties are given (Qxb6600357aDoorTie.lean); close each card by the builder's one call (the guide's Derived/Test/ToyasCard.lean, 'card_holds'). Laid BY PROGRAM, IN A SANDBOX (cutbox-door.mjs). By AI agents, Wed Nov 11 2026. No macro, syntax, notation, axiom, sorry.
-/
import Derived.Test.Qxb6600357aDoorRows
import GoSem.ClaimSeven
namespace Go.Proofs.Qxb6600357aDoor
namespace Rows

/-- THE TIED CARD OF 'zzlaws_root_b1.FnShortExponentTextModel'. -/
def fnShortExponentTextModelCard : Claim7 := { stood := { row := fnShortExponentTextModelRow, standIns := [], harness := (true, "d20c08805901475dec9e4c9d922c58d10e96a208f048e041a9ffd857fd3ae224"), looks := false }, kinds := [], alts := [], laidByText := true, laidKinds := [.data, .data, .data], laidTests := true, laidLooks := .later }
def FnShortExponentTextModelCardSaid : Prop := Claim7.holds Tryd.pinned (.plain (OpenSpec.ofChange fnShortExponentTextModelSpec)) fnShortExponentTextModelCard

/-- THE TIED CARD OF 'zzlaws_root_b1.FnShortExponentTextExponentRoundTrip'. -/
def fnShortExponentTextExponentRoundTripCard : Claim7 := { stood := { row := fnShortExponentTextExponentRoundTripRow, standIns := [], harness := (true, "d20c08805901475dec9e4c9d922c58d10e96a208f048e041a9ffd857fd3ae224"), looks := false }, kinds := [], alts := [], laidByText := true, laidKinds := [.data, .data, .data], laidTests := true, laidLooks := .later }
def FnShortExponentTextExponentRoundTripCardSaid : Prop := Claim7.holds Tryd.pinned (.plain (OpenSpec.ofChange fnShortExponentTextExponentRoundTripSpec)) fnShortExponentTextExponentRoundTripCard

/-- THE TIED CARD OF 'zzlaws_root_b1.FnShortExponentTextIgnoresSignZerosAndExponentPart'. -/
def fnShortExponentTextIgnoresSignZerosAndExponentPartCard : Claim7 := { stood := { row := fnShortExponentTextIgnoresSignZerosAndExponentPartRow, standIns := [], harness := (true, "d20c08805901475dec9e4c9d922c58d10e96a208f048e041a9ffd857fd3ae224"), looks := false }, kinds := [], alts := [], laidByText := true, laidKinds := [.data, .data, .data], laidTests := true, laidLooks := .later }
def FnShortExponentTextIgnoresSignZerosAndExponentPartCardSaid : Prop := Claim7.holds Tryd.pinned (.plain (OpenSpec.ofChange fnShortExponentTextIgnoresSignZerosAndExponentPartSpec)) fnShortExponentTextIgnoresSignZerosAndExponentPartCard
end Rows
end Go.Proofs.Qxb6600357aDoor
