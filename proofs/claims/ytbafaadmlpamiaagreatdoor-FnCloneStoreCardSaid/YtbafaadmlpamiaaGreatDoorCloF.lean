import Derived.Test.YtbafaadmlpamiaaGreatDoorRows
import Derived.Test.YtbafaadmlpamiaaGreatDoorTie
import Derived.ProofKit
import Derived.SevenTiedAt
namespace Go.Proofs.YtbafaadmlpamiaaGreatDoor
open Go Go.ChangeShapes Go.WideShapes Go.ChangeAt Go.RowKit
theorem cloneF1:(Rows.fnCloneStoreRow.inPlace == Tryz.prog.inPlace 14)=true:=by kernel_rfl
theorem cloneF2:(Rows.fnCloneStoreRow.unfollowed == Tryz.prog.unfollowed 14)=true:=by kernel_rfl
theorem cloneF3:(Rows.fnCloneStoreRow.recurses == Tryz.prog.recurses 14)=true:=by kernel_rfl
theorem cloneF4:(Rows.fnCloneStoreRow.named == Tryz.prog.varsNamed 14)=true:=by kernel_rfl
theorem cloneFacts:joinedFacts Tryz.prog 14 Tryz.f14 Rows.fnCloneStoreSpec Rows.fnCloneStoreRow=true:=by
 unfold joinedFacts
 rw [cloneF1,cloneF2,cloneF3,cloneF4]
 kernel_rfl
end Go.Proofs.YtbafaadmlpamiaaGreatDoor
