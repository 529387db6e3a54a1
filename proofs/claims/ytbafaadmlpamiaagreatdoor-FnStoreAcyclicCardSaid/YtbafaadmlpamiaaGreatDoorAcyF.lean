/- FnStoreAcyclic: the closed facts of its row, each by itself. -/
import Derived.Test.YtbafaadmlpamiaaGreatDoorRows
import Derived.Test.YtbafaadmlpamiaaGreatDoorTie
import Derived.ProofKit
import Derived.SevenTiedAt
namespace Go.Proofs.YtbafaadmlpamiaaGreatDoor
open Go Go.ChangeShapes Go.WideShapes Go.ChangeAt Go.RowKit
theorem acyclicF1 : (Rows.fnStoreAcyclicRow.inPlace == Tryz.prog.inPlace 7) = true := by kernel_rfl
theorem acyclicF2 : (Rows.fnStoreAcyclicRow.unfollowed == Tryz.prog.unfollowed 7) = true := by kernel_rfl
theorem acyclicF3 : (Rows.fnStoreAcyclicRow.recurses == Tryz.prog.recurses 7) = true := by kernel_rfl
theorem acyclicF4 : (Rows.fnStoreAcyclicRow.named == Tryz.prog.varsNamed 7) = true := by kernel_rfl
theorem acyclicFacts : joinedFacts Tryz.prog 7 Tryz.f7 Rows.fnStoreAcyclicSpec Rows.fnStoreAcyclicRow = true := by
 unfold joinedFacts
 rw [acyclicF1,acyclicF2,acyclicF3,acyclicF4]
 kernel_rfl
end Go.Proofs.YtbafaadmlpamiaaGreatDoor
