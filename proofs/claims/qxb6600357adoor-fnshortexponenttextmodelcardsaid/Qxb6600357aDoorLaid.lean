/-
  WHAT THE ROWS' CONDITION ('laid') GIVES THE WALKS, AND THE WITNESS: the door's own heap meets it.
-/
import Derived.Test.Qxb6600357aDoorRows
import Derived.Test.Qxb6600357aDoorNames
import Derived.Test.Qxb6600357aDoorTie
import Derived.ProofKit
import Derived.LaidMore
import Derived.Lib.LaidTab
import Derived.Lib.ItoaNum
import Derived.Stop.LaidErr
import Derived.Stop.Joined
namespace Go.Proofs.Qxb6600357aDoor.Walks
open Go

theorem gPow : Tryd.prog.globalNamed powName = some 0 := by kernel_rfl
theorem tPow : (Tryd.prog.globals[0]?).map (·.type) = some 41 := by kernel_rfl

/-- The table of powers, out of the row's condition. -/
theorem tab_of {W : World} (h : laidMetH Tryd.prog laid3 W) : Lib.TabIs Tryd.prog W powName .u64 Lib.pow10Tab := by
  rw [MakeChecks.laidMetH_plain _ _ _ (by kernel_rfl)] at h
  have h3 := h.tail.tail
  exact Lib.tabIs_of_head (rest := []) gPow tPow Tryd.underlying41 Tryd.underlying27 (by kernel_rfl) (by kernel_rfl) h3

set_option maxRecDepth 100000 in
theorem door_met (os : Os) (args : Array Value) : laidMetH Tryd.prog laid3 ((World.doorLaid Tryd.prog 24 os).forCall (fun _ _ => 0) ⟨#[], args, []⟩).memory :=
  laidMetH_of_parts3 (fuel := 8) (laidMet_of_run' 8 (by kernel_rfl) (by kernel_rfl)) (by kernel_rfl) (by kernel_rfl)
end Go.Proofs.Qxb6600357aDoor.Walks
