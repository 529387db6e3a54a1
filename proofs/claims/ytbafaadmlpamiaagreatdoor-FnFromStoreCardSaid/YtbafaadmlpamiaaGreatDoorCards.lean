/-
  DERIVED. GIVEN WITH THE SEED: THE CARDS: each row of YtbafaadmlpamiaaGreatDoorRows.lean that lists a variable, with what it lists TIED to the program's text (the seventh form; the later family's looks); each row that meets fmt, with fmt's text TOLD by the authors' own Lean function (tested against real Go, not proved from fmt's source: count such statements apart). THE CARD IS WHAT COUNTS. Prove the row's statement (the work); the ties are given (YtbafaadmlpamiaaGreatDoorTie.lean); close each card by the builder's one call (the guide's Derived/Test/ToyasCard.lean, 'card_holds'). Laid BY PROGRAM, IN A SANDBOX (cutbox-door.mjs). By AI agents, Wed Nov 11 2026. No macro, syntax, notation, axiom, sorry.
-/
import Derived.Test.YtbafaadmlpamiaaGreatDoorRows
import GoSem.ClaimSeven
namespace Go.Proofs.YtbafaadmlpamiaaGreatDoor
namespace Rows

/-- THE TIED CARD OF 'laws.FnStoreChange'. -/
def fnStoreChangeCard : Claim7 := { stood := { row := fnStoreChangeRow, standIns := [], harness := (true, "1eb54e7eea99c8ee87a837cd298790060072c05f51e5369a7b9cbb49efb6c24f"), looks := true }, kinds := [], alts := [], laidByText := true, laidKinds := [.data, .data, .data, .sentinel, .sentinel, .sentinel, .sentinel, .sentinel, .sentinel], laidTests := true, laidLooks := .later }
def FnStoreChangeCardSaid : Prop := Claim7.holds Tryz.pinned (.plain (OpenSpec.ofChange fnStoreChangeSpec)) fnStoreChangeCard

/-- THE TIED CARD OF 'laws.FnStorePair'. -/
def fnStorePairCard : Claim7 := { stood := { row := fnStorePairRow, standIns := [], harness := (true, "1eb54e7eea99c8ee87a837cd298790060072c05f51e5369a7b9cbb49efb6c24f"), looks := true }, kinds := [], alts := [], laidByText := true, laidKinds := [.data, .data, .data, .sentinel, .sentinel, .sentinel, .sentinel, .sentinel, .sentinel], laidTests := true, laidLooks := .later }
def FnStorePairCardSaid : Prop := Claim7.holds Tryz.pinned (.plain (OpenSpec.ofChange fnStorePairSpec)) fnStorePairCard

/-- THE TIED CARD OF 'laws.FnStore'. -/
def fnStoreCard : Claim7 := { stood := { row := fnStoreRow, standIns := [], harness := (true, "1eb54e7eea99c8ee87a837cd298790060072c05f51e5369a7b9cbb49efb6c24f"), looks := true }, kinds := [], alts := [], laidByText := true, laidKinds := [.data, .data, .data, .sentinel, .sentinel, .sentinel, .sentinel, .sentinel, .sentinel], laidTests := true, laidLooks := .later }
def FnStoreCardSaid : Prop := Claim7.holds Tryz.pinned (.plain (OpenSpec.ofChange fnStoreSpec)) fnStoreCard

/-- THE TIED CARD OF 'laws.FnStoreAbsent'. -/
def fnStoreAbsentCard : Claim7 := { stood := { row := fnStoreAbsentRow, standIns := [], harness := (true, "1eb54e7eea99c8ee87a837cd298790060072c05f51e5369a7b9cbb49efb6c24f"), looks := true }, kinds := [], alts := [], laidByText := true, laidKinds := [.data, .data, .data, .sentinel, .sentinel, .sentinel, .sentinel, .sentinel, .sentinel], laidTests := true, laidLooks := .later }
def FnStoreAbsentCardSaid : Prop := Claim7.holds Tryz.pinned (.plain (OpenSpec.ofChange fnStoreAbsentSpec)) fnStoreAbsentCard

/-- THE TIED CARD OF 'laws.FnStoreAcyclic'. -/
def fnStoreAcyclicCard : Claim7 := { stood := { row := fnStoreAcyclicRow, standIns := [], harness := (true, "1eb54e7eea99c8ee87a837cd298790060072c05f51e5369a7b9cbb49efb6c24f"), looks := true }, kinds := [], alts := [], laidByText := true, laidKinds := [.data, .data, .data, .sentinel, .sentinel, .sentinel, .sentinel, .sentinel, .sentinel], laidTests := true, laidLooks := .later }
def FnStoreAcyclicCardSaid : Prop := Claim7.holds Tryz.pinned (.plain (OpenSpec.ofChange fnStoreAcyclicSpec)) fnStoreAcyclicCard

/-- THE TIED CARD OF 'laws.FnStoreBoth'. -/
def fnStoreBothCard : Claim7 := { stood := { row := fnStoreBothRow, standIns := [], harness := (true, "1eb54e7eea99c8ee87a837cd298790060072c05f51e5369a7b9cbb49efb6c24f"), looks := true }, kinds := [], alts := [], laidByText := true, laidKinds := [.data, .data, .data, .sentinel, .sentinel, .sentinel, .sentinel, .sentinel, .sentinel], laidTests := true, laidLooks := .later }
def FnStoreBothCardSaid : Prop := Claim7.holds Tryz.pinned (.plain (OpenSpec.ofChange fnStoreBothSpec)) fnStoreBothCard

/-- THE TIED CARD OF 'laws.FnStoreHash'. -/
def fnStoreHashCard : Claim7 := { stood := { row := fnStoreHashRow, standIns := [], harness := (true, "1eb54e7eea99c8ee87a837cd298790060072c05f51e5369a7b9cbb49efb6c24f"), looks := true }, kinds := [], alts := [], laidByText := true, laidKinds := [.data, .data, .data, .sentinel, .sentinel, .sentinel, .sentinel, .sentinel, .sentinel], laidTests := true, laidLooks := .later }
def FnStoreHashCardSaid : Prop := Claim7.holds Tryz.pinned (.plain (OpenSpec.ofChange fnStoreHashSpec)) fnStoreHashCard

/-- THE TIED CARD OF 'laws.FnStoreNames'. -/
def fnStoreNamesCard : Claim7 := { stood := { row := fnStoreNamesRow, standIns := [], harness := (true, "1eb54e7eea99c8ee87a837cd298790060072c05f51e5369a7b9cbb49efb6c24f"), looks := true }, kinds := [], alts := [], laidByText := true, laidKinds := [.data, .data, .data, .sentinel, .sentinel, .sentinel, .sentinel, .sentinel, .sentinel], laidTests := true, laidLooks := .later }
def FnStoreNamesCardSaid : Prop := Claim7.holds Tryz.pinned (.plain (OpenSpec.ofChange fnStoreNamesSpec)) fnStoreNamesCard

/-- THE TIED CARD OF 'laws.FnStoreEmptied'. -/
def fnStoreEmptiedCard : Claim7 := { stood := { row := fnStoreEmptiedRow, standIns := [], harness := (true, "1eb54e7eea99c8ee87a837cd298790060072c05f51e5369a7b9cbb49efb6c24f"), looks := true }, kinds := [], alts := [], laidByText := true, laidKinds := [.data, .data, .data, .sentinel, .sentinel, .sentinel, .sentinel, .sentinel, .sentinel], laidTests := true, laidLooks := .later }
def FnStoreEmptiedCardSaid : Prop := Claim7.holds Tryz.pinned (.plain (OpenSpec.ofChange fnStoreEmptiedSpec)) fnStoreEmptiedCard

/-- THE TIED CARD OF 'laws.FnStoreTwice'. -/
def fnStoreTwiceCard : Claim7 := { stood := { row := fnStoreTwiceRow, standIns := [], harness := (true, "1eb54e7eea99c8ee87a837cd298790060072c05f51e5369a7b9cbb49efb6c24f"), looks := true }, kinds := [], alts := [], laidByText := true, laidKinds := [.data, .data, .data, .sentinel, .sentinel, .sentinel, .sentinel, .sentinel, .sentinel], laidTests := true, laidLooks := .later }
def FnStoreTwiceCardSaid : Prop := Claim7.holds Tryz.pinned (.plain (OpenSpec.ofChange fnStoreTwiceSpec)) fnStoreTwiceCard

/-- THE TIED CARD OF 'laws.FnTraits'. -/
def fnTraitsCard : Claim7 := { stood := { row := fnTraitsRow, standIns := [], harness := (true, "1eb54e7eea99c8ee87a837cd298790060072c05f51e5369a7b9cbb49efb6c24f"), looks := true }, kinds := [], alts := [], laidByText := true, laidKinds := [.data, .data, .data, .sentinel, .sentinel, .sentinel, .sentinel, .sentinel, .sentinel], laidTests := true, laidLooks := .later }
def FnTraitsCardSaid : Prop := Claim7.holds Tryz.pinned (.plain (OpenSpec.ofChange fnTraitsSpec)) fnTraitsCard

/-- THE TIED CARD OF 'laws.FnCloneStore'. -/
def fnCloneStoreCard : Claim7 := { stood := { row := fnCloneStoreRow, standIns := [], harness := (true, "1eb54e7eea99c8ee87a837cd298790060072c05f51e5369a7b9cbb49efb6c24f"), looks := true }, kinds := [], alts := [], laidByText := true, laidKinds := [.data, .data, .data, .sentinel, .sentinel, .sentinel, .sentinel, .sentinel, .sentinel], laidTests := true, laidLooks := .later }
def FnCloneStoreCardSaid : Prop := Claim7.holds Tryz.pinned (.plain (OpenSpec.ofChange fnCloneStoreSpec)) fnCloneStoreCard

/-- THE TIED CARD OF 'laws.FnFromStore'. -/
def fnFromStoreCard : Claim7 := { stood := { row := fnFromStoreRow, standIns := [], harness := (true, "1eb54e7eea99c8ee87a837cd298790060072c05f51e5369a7b9cbb49efb6c24f"), looks := true }, kinds := [], alts := [], laidByText := true, laidKinds := [.data, .data, .data, .sentinel, .sentinel, .sentinel, .sentinel, .sentinel, .sentinel], laidTests := true, laidLooks := .later }
def FnFromStoreCardSaid : Prop := Claim7.holds Tryz.pinned (.plain (OpenSpec.ofChange fnFromStoreSpec)) fnFromStoreCard

/-- THE SECOND FORM's CARD OF 'laws.FnStoreChange'. -/
def fnStoreChangeUptoCard : Claim7 := { stood := { row := fnStoreChangeUptoRow, standIns := [], harness := (true, "1eb54e7eea99c8ee87a837cd298790060072c05f51e5369a7b9cbb49efb6c24f"), looks := true }, kinds := [], alts := [], laidByText := true, laidKinds := [.data, .data, .data, .sentinel, .sentinel, .sentinel, .sentinel, .sentinel, .sentinel], laidTests := true, laidLooks := .later }
def FnStoreChangeUptoCardSaid : Prop := Claim7.holds Tryz.pinned (.plain (OpenSpec.upto fnStoreChangeSpec)) fnStoreChangeUptoCard

/-- THE SECOND FORM's CARD OF 'laws.FnStorePair'. -/
def fnStorePairUptoCard : Claim7 := { stood := { row := fnStorePairUptoRow, standIns := [], harness := (true, "1eb54e7eea99c8ee87a837cd298790060072c05f51e5369a7b9cbb49efb6c24f"), looks := true }, kinds := [], alts := [], laidByText := true, laidKinds := [.data, .data, .data, .sentinel, .sentinel, .sentinel, .sentinel, .sentinel, .sentinel], laidTests := true, laidLooks := .later }
def FnStorePairUptoCardSaid : Prop := Claim7.holds Tryz.pinned (.plain (OpenSpec.upto fnStorePairSpec)) fnStorePairUptoCard

/-- THE SECOND FORM's CARD OF 'laws.FnStore'. -/
def fnStoreUptoCard : Claim7 := { stood := { row := fnStoreUptoRow, standIns := [], harness := (true, "1eb54e7eea99c8ee87a837cd298790060072c05f51e5369a7b9cbb49efb6c24f"), looks := true }, kinds := [], alts := [], laidByText := true, laidKinds := [.data, .data, .data, .sentinel, .sentinel, .sentinel, .sentinel, .sentinel, .sentinel], laidTests := true, laidLooks := .later }
def FnStoreUptoCardSaid : Prop := Claim7.holds Tryz.pinned (.plain (OpenSpec.upto fnStoreSpec)) fnStoreUptoCard

/-- THE SECOND FORM's CARD OF 'laws.FnStoreAbsent'. -/
def fnStoreAbsentUptoCard : Claim7 := { stood := { row := fnStoreAbsentUptoRow, standIns := [], harness := (true, "1eb54e7eea99c8ee87a837cd298790060072c05f51e5369a7b9cbb49efb6c24f"), looks := true }, kinds := [], alts := [], laidByText := true, laidKinds := [.data, .data, .data, .sentinel, .sentinel, .sentinel, .sentinel, .sentinel, .sentinel], laidTests := true, laidLooks := .later }
def FnStoreAbsentUptoCardSaid : Prop := Claim7.holds Tryz.pinned (.plain (OpenSpec.upto fnStoreAbsentSpec)) fnStoreAbsentUptoCard

/-- THE SECOND FORM's CARD OF 'laws.FnStoreAcyclic'. -/
def fnStoreAcyclicUptoCard : Claim7 := { stood := { row := fnStoreAcyclicUptoRow, standIns := [], harness := (true, "1eb54e7eea99c8ee87a837cd298790060072c05f51e5369a7b9cbb49efb6c24f"), looks := true }, kinds := [], alts := [], laidByText := true, laidKinds := [.data, .data, .data, .sentinel, .sentinel, .sentinel, .sentinel, .sentinel, .sentinel], laidTests := true, laidLooks := .later }
def FnStoreAcyclicUptoCardSaid : Prop := Claim7.holds Tryz.pinned (.plain (OpenSpec.upto fnStoreAcyclicSpec)) fnStoreAcyclicUptoCard

/-- THE SECOND FORM's CARD OF 'laws.FnStoreBoth'. -/
def fnStoreBothUptoCard : Claim7 := { stood := { row := fnStoreBothUptoRow, standIns := [], harness := (true, "1eb54e7eea99c8ee87a837cd298790060072c05f51e5369a7b9cbb49efb6c24f"), looks := true }, kinds := [], alts := [], laidByText := true, laidKinds := [.data, .data, .data, .sentinel, .sentinel, .sentinel, .sentinel, .sentinel, .sentinel], laidTests := true, laidLooks := .later }
def FnStoreBothUptoCardSaid : Prop := Claim7.holds Tryz.pinned (.plain (OpenSpec.upto fnStoreBothSpec)) fnStoreBothUptoCard

/-- THE SECOND FORM's CARD OF 'laws.FnStoreHash'. -/
def fnStoreHashUptoCard : Claim7 := { stood := { row := fnStoreHashUptoRow, standIns := [], harness := (true, "1eb54e7eea99c8ee87a837cd298790060072c05f51e5369a7b9cbb49efb6c24f"), looks := true }, kinds := [], alts := [], laidByText := true, laidKinds := [.data, .data, .data, .sentinel, .sentinel, .sentinel, .sentinel, .sentinel, .sentinel], laidTests := true, laidLooks := .later }
def FnStoreHashUptoCardSaid : Prop := Claim7.holds Tryz.pinned (.plain (OpenSpec.upto fnStoreHashSpec)) fnStoreHashUptoCard

/-- THE SECOND FORM's CARD OF 'laws.FnStoreNames'. -/
def fnStoreNamesUptoCard : Claim7 := { stood := { row := fnStoreNamesUptoRow, standIns := [], harness := (true, "1eb54e7eea99c8ee87a837cd298790060072c05f51e5369a7b9cbb49efb6c24f"), looks := true }, kinds := [], alts := [], laidByText := true, laidKinds := [.data, .data, .data, .sentinel, .sentinel, .sentinel, .sentinel, .sentinel, .sentinel], laidTests := true, laidLooks := .later }
def FnStoreNamesUptoCardSaid : Prop := Claim7.holds Tryz.pinned (.plain (OpenSpec.upto fnStoreNamesSpec)) fnStoreNamesUptoCard

/-- THE SECOND FORM's CARD OF 'laws.FnStoreEmptied'. -/
def fnStoreEmptiedUptoCard : Claim7 := { stood := { row := fnStoreEmptiedUptoRow, standIns := [], harness := (true, "1eb54e7eea99c8ee87a837cd298790060072c05f51e5369a7b9cbb49efb6c24f"), looks := true }, kinds := [], alts := [], laidByText := true, laidKinds := [.data, .data, .data, .sentinel, .sentinel, .sentinel, .sentinel, .sentinel, .sentinel], laidTests := true, laidLooks := .later }
def FnStoreEmptiedUptoCardSaid : Prop := Claim7.holds Tryz.pinned (.plain (OpenSpec.upto fnStoreEmptiedSpec)) fnStoreEmptiedUptoCard

/-- THE SECOND FORM's CARD OF 'laws.FnStoreTwice'. -/
def fnStoreTwiceUptoCard : Claim7 := { stood := { row := fnStoreTwiceUptoRow, standIns := [], harness := (true, "1eb54e7eea99c8ee87a837cd298790060072c05f51e5369a7b9cbb49efb6c24f"), looks := true }, kinds := [], alts := [], laidByText := true, laidKinds := [.data, .data, .data, .sentinel, .sentinel, .sentinel, .sentinel, .sentinel, .sentinel], laidTests := true, laidLooks := .later }
def FnStoreTwiceUptoCardSaid : Prop := Claim7.holds Tryz.pinned (.plain (OpenSpec.upto fnStoreTwiceSpec)) fnStoreTwiceUptoCard

/-- THE SECOND FORM's CARD OF 'laws.FnTraits'. -/
def fnTraitsUptoCard : Claim7 := { stood := { row := fnTraitsUptoRow, standIns := [], harness := (true, "1eb54e7eea99c8ee87a837cd298790060072c05f51e5369a7b9cbb49efb6c24f"), looks := true }, kinds := [], alts := [], laidByText := true, laidKinds := [.data, .data, .data, .sentinel, .sentinel, .sentinel, .sentinel, .sentinel, .sentinel], laidTests := true, laidLooks := .later }
def FnTraitsUptoCardSaid : Prop := Claim7.holds Tryz.pinned (.plain (OpenSpec.upto fnTraitsSpec)) fnTraitsUptoCard

/-- THE SECOND FORM's CARD OF 'laws.FnCloneStore'. -/
def fnCloneStoreUptoCard : Claim7 := { stood := { row := fnCloneStoreUptoRow, standIns := [], harness := (true, "1eb54e7eea99c8ee87a837cd298790060072c05f51e5369a7b9cbb49efb6c24f"), looks := true }, kinds := [], alts := [], laidByText := true, laidKinds := [.data, .data, .data, .sentinel, .sentinel, .sentinel, .sentinel, .sentinel, .sentinel], laidTests := true, laidLooks := .later }
def FnCloneStoreUptoCardSaid : Prop := Claim7.holds Tryz.pinned (.plain (OpenSpec.upto fnCloneStoreSpec)) fnCloneStoreUptoCard

/-- THE SECOND FORM's CARD OF 'laws.FnFromStore'. -/
def fnFromStoreUptoCard : Claim7 := { stood := { row := fnFromStoreUptoRow, standIns := [], harness := (true, "1eb54e7eea99c8ee87a837cd298790060072c05f51e5369a7b9cbb49efb6c24f"), looks := true }, kinds := [], alts := [], laidByText := true, laidKinds := [.data, .data, .data, .sentinel, .sentinel, .sentinel, .sentinel, .sentinel, .sentinel], laidTests := true, laidLooks := .later }
def FnFromStoreUptoCardSaid : Prop := Claim7.holds Tryz.pinned (.plain (OpenSpec.upto fnFromStoreSpec)) fnFromStoreUptoCard
end Rows
end Go.Proofs.YtbafaadmlpamiaaGreatDoor
