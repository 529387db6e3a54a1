/- FnStoreHash: the closed facts of its row, each by itself. -/
import Derived.Test.YtbafaadmlpamiaaGreatDoorRows
import Derived.Test.YtbafaadmlpamiaaGreatDoorTie
import Derived.ProofKit
import Derived.SevenTiedAt
namespace Go.Proofs.YtbafaadmlpamiaaGreatDoor
open Go Go.ChangeShapes Go.WideShapes Go.ChangeAt Go.RowKit
theorem hashF1 : (Rows.fnStoreHashRow.inPlace == Tryz.prog.inPlace 9) = true := by kernel_rfl
theorem hashF2 : (Rows.fnStoreHashRow.unfollowed == Tryz.prog.unfollowed 9) = true := by kernel_rfl
theorem hashF3 : (Rows.fnStoreHashRow.recurses == Tryz.prog.recurses 9) = true := by kernel_rfl
theorem hashF4 : (Rows.fnStoreHashRow.named == Tryz.prog.varsNamed 9) = true := by kernel_rfl
theorem hashFacts : joinedFacts Tryz.prog 9 Tryz.f9 Rows.fnStoreHashSpec Rows.fnStoreHashRow = true := by
 unfold joinedFacts
 rw [hashF1,hashF2,hashF3,hashF4]
 kernel_rfl
end Go.Proofs.YtbafaadmlpamiaaGreatDoor
