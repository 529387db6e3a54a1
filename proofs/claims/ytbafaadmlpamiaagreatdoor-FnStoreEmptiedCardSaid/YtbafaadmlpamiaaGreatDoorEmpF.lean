/- FnStoreEmptied: the closed facts of its row, each by itself. -/
import Derived.Test.YtbafaadmlpamiaaGreatDoorRows
import Derived.Test.YtbafaadmlpamiaaGreatDoorTie
import Derived.ProofKit
import Derived.SevenTiedAt
namespace Go.Proofs.YtbafaadmlpamiaaGreatDoor
open Go Go.ChangeShapes Go.WideShapes Go.ChangeAt Go.RowKit
theorem emptiedF1 : (Rows.fnStoreEmptiedRow.inPlace == Tryz.prog.inPlace 11) = true := by kernel_rfl
theorem emptiedF2 : (Rows.fnStoreEmptiedRow.unfollowed == Tryz.prog.unfollowed 11) = true := by kernel_rfl
theorem emptiedF3 : (Rows.fnStoreEmptiedRow.recurses == Tryz.prog.recurses 11) = true := by kernel_rfl
theorem emptiedF4 : (Rows.fnStoreEmptiedRow.named == Tryz.prog.varsNamed 11) = true := by kernel_rfl
theorem emptiedFacts : joinedFacts Tryz.prog 11 Tryz.f11 Rows.fnStoreEmptiedSpec Rows.fnStoreEmptiedRow = true := by
 unfold joinedFacts
 rw [emptiedF1,emptiedF2,emptiedF3,emptiedF4]
 kernel_rfl
end Go.Proofs.YtbafaadmlpamiaaGreatDoor
