/-
  THE LISTED VARIABLES, off the given row: the list, and the name of the table of powers.
-/
import Derived.Test.Qxb6600357aDoorRows
namespace Go.Proofs.Qxb6600357aDoor
def laid3 : List (String × DataW Unit) := Rows.fnShortExponentTextModelRow.laid
def powName : String := (Rows.fnShortExponentTextModelRow.laid.getD 2 ("", .nil)).1
end Go.Proofs.Qxb6600357aDoor
