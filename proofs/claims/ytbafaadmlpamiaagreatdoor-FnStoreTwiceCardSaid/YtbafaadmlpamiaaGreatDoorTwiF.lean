/- FnStoreTwice: the closed facts of its row, each by itself. -/
import Derived.Test.YtbafaadmlpamiaaGreatDoorRows
import Derived.Test.YtbafaadmlpamiaaGreatDoorTie
import Derived.ProofKit
import Derived.SevenTiedAt
namespace Go.Proofs.YtbafaadmlpamiaaGreatDoor
open Go Go.ChangeShapes Go.WideShapes Go.ChangeAt Go.RowKit
theorem twiceF1 : (Rows.fnStoreTwiceRow.inPlace == Tryz.prog.inPlace 12) = true := by kernel_rfl
theorem twiceF2 : (Rows.fnStoreTwiceRow.unfollowed == Tryz.prog.unfollowed 12) = true := by kernel_rfl
theorem twiceF3 : (Rows.fnStoreTwiceRow.recurses == Tryz.prog.recurses 12) = true := by kernel_rfl
theorem twiceF4 : (Rows.fnStoreTwiceRow.named == Tryz.prog.varsNamed 12) = true := by kernel_rfl
theorem twiceFacts : joinedFacts Tryz.prog 12 Tryz.f12 Rows.fnStoreTwiceSpec Rows.fnStoreTwiceRow = true := by
 unfold joinedFacts
 rw [twiceF1,twiceF2,twiceF3,twiceF4]
 kernel_rfl
end Go.Proofs.YtbafaadmlpamiaaGreatDoor
