/- FnTraits: the closed facts of its row, each by itself. -/
import Derived.Test.YtbafaadmlpamiaaGreatDoorRows
import Derived.Test.YtbafaadmlpamiaaGreatDoorTie
import Derived.ProofKit
import Derived.SevenTiedAt
namespace Go.Proofs.YtbafaadmlpamiaaGreatDoor
open Go Go.ChangeShapes Go.WideShapes Go.ChangeAt Go.RowKit

theorem traitsF1 : (Rows.fnTraitsRow.inPlace == Tryz.prog.inPlace 13) = true := by kernel_rfl
theorem traitsF2 : (Rows.fnTraitsRow.unfollowed == Tryz.prog.unfollowed 13) = true := by kernel_rfl
theorem traitsF3 : (Rows.fnTraitsRow.recurses == Tryz.prog.recurses 13) = true := by kernel_rfl
theorem traitsF4 : (Rows.fnTraitsRow.named == Tryz.prog.varsNamed 13) = true := by kernel_rfl

theorem traitsFacts : joinedFacts Tryz.prog 13 Tryz.f13 Rows.fnTraitsSpec Rows.fnTraitsRow = true := by
  unfold joinedFacts
  rw [traitsF1, traitsF2, traitsF3, traitsF4]
  kernel_rfl
end Go.Proofs.YtbafaadmlpamiaaGreatDoor
