/-
  THE SEAT b6616074aD: the name of the table of powers of ten, as the given row has it. By an AI agent.
-/
import Derived.Test.Qxb6616074aDoorRows
namespace Go.Proofs.Qxb6616074aDoor
/-- The table's name: the first that the row names. -/
abbrev powName : String := Rows.fnStampMarshalTextDigitExtensionRow.named.headD ""
end Go.Proofs.Qxb6616074aDoor
