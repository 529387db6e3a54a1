import Derived.Test.YtbafaadmlpamiaaGreatDoorRows
import Derived.Test.YtbafaadmlpamiaaGreatDoorTie
import Derived.ProofKit
import Derived.SevenTiedAt
namespace Go.Proofs.YtbafaadmlpamiaaGreatDoor
open Go Go.ChangeShapes Go.WideShapes Go.ChangeAt Go.RowKit
theorem from1F1:(Rows.fnFromStoreRow.inPlace == Tryz.prog.inPlace 15)=true:=by kernel_rfl
theorem from1F2:(Rows.fnFromStoreRow.unfollowed == Tryz.prog.unfollowed 15)=true:=by kernel_rfl
theorem from1F3:(Rows.fnFromStoreRow.recurses == Tryz.prog.recurses 15)=true:=by kernel_rfl
theorem from1F4:(Rows.fnFromStoreRow.named == Tryz.prog.varsNamed 15)=true:=by kernel_rfl
theorem from1Facts:joinedFacts Tryz.prog 15 Tryz.f15 Rows.fnFromStoreSpec Rows.fnFromStoreRow=true:=by
 unfold joinedFacts
 rw [from1F1,from1F2,from1F3,from1F4]
 kernel_rfl
end Go.Proofs.YtbafaadmlpamiaaGreatDoor
