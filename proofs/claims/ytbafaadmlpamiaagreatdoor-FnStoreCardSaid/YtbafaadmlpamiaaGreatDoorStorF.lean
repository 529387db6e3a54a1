/- FnStore: the closed facts of its row, each by itself. -/
import Derived.Test.YtbafaadmlpamiaaGreatDoorRows
import Derived.Test.YtbafaadmlpamiaaGreatDoorTie
import Derived.ProofKit
import Derived.SevenTiedAt
namespace Go.Proofs.YtbafaadmlpamiaaGreatDoor
open Go Go.ChangeShapes Go.WideShapes Go.ChangeAt Go.RowKit
theorem storeF1 : (Rows.fnStoreRow.inPlace == Tryz.prog.inPlace 5) = true := by kernel_rfl
theorem storeF2 : (Rows.fnStoreRow.unfollowed == Tryz.prog.unfollowed 5) = true := by kernel_rfl
theorem storeF3 : (Rows.fnStoreRow.recurses == Tryz.prog.recurses 5) = true := by kernel_rfl
theorem storeF4 : (Rows.fnStoreRow.named == Tryz.prog.varsNamed 5) = true := by kernel_rfl
theorem storeFacts : joinedFacts Tryz.prog 5 Tryz.f5 Rows.fnStoreSpec Rows.fnStoreRow = true := by
 unfold joinedFacts
 rw [storeF1,storeF2,storeF3,storeF4]
 kernel_rfl
end Go.Proofs.YtbafaadmlpamiaaGreatDoor
