/-
  DERIVED. GIVEN WITH THE SEED: THE PROGRAM's TIES (one call each: nine closed facts by the kernel) AND EACH ROW's TIE, after the 31st guide's Derived/Test/Toyas{Tie, Card}.lean. No idea stands in it: it is a product of the set-up. Laid BY PROGRAM, IN A SANDBOX (cutbox-door.mjs). By AI agents, Wed Nov 11 2026. No macro, syntax, notation, axiom, sorry.
-/
import Derived.Test.YtbafaadmlpamiaaGreatDoorRows
import Derived.LaidByTextLater
import Derived.SevenTiedAt
import Derived.LaidSub
import Derived.LaidOnce
namespace Go.Proofs.YtbafaadmlpamiaaGreatDoor
open Go
set_option maxRecDepth 100000
theorem seatTie1 : Tryz.prog.laidByTextLater [("math/bits.deBruijn32tab", Rows.laid_math_bits_deBruijn32tab), ("math/bits.deBruijn64tab", Rows.laid_math_bits_deBruijn64tab), ("internal/strconv.uint64pow10", Rows.laid_internal_strconv_uint64pow10), ("pub-hypha/pub/dbgraph.ErrVertexNotFound", Rows.laid_pub_hypha_pub_dbgraph_ErrVertexNotFound), ("pub-hypha/pub/dbgraph.ErrVertexAlreadyExists", Rows.laid_pub_hypha_pub_dbgraph_ErrVertexAlreadyExists), ("pub-hypha/pub/dbgraph.ErrEdgeNotFound", Rows.laid_pub_hypha_pub_dbgraph_ErrEdgeNotFound), ("pub-hypha/pub/dbgraph.ErrEdgeAlreadyExists", Rows.laid_pub_hypha_pub_dbgraph_ErrEdgeAlreadyExists), ("pub-hypha/pub/dbgraph.ErrEdgeCreatesCycle", Rows.laid_pub_hypha_pub_dbgraph_ErrEdgeCreatesCycle), ("pub-hypha/pub/dbgraph.ErrVertexHasEdges", Rows.laid_pub_hypha_pub_dbgraph_ErrVertexHasEdges)] [.data, .data, .data, .sentinel, .sentinel, .sentinel, .sentinel, .sentinel, .sentinel] true :=
  Program.laidByTextLater_by_one 138 8 65 (by kernel_rfl) (by kernel_rfl) (by kernel_rfl) (by kernel_rfl) (by kernel_rfl) (by kernel_rfl) (fun _ _ => by kernel_rfl)
theorem noOwnUnsafe : Tryz.pinned.checked.prog.headLifts.contains "ownunsafe" = false := by kernel_rfl
theorem tie : Tryz.prog.laidByTextLater [("math/bits.deBruijn32tab", Rows.laid_math_bits_deBruijn32tab), ("math/bits.deBruijn64tab", Rows.laid_math_bits_deBruijn64tab), ("internal/strconv.uint64pow10", Rows.laid_internal_strconv_uint64pow10), ("pub-hypha/pub/dbgraph.ErrVertexNotFound", Rows.laid_pub_hypha_pub_dbgraph_ErrVertexNotFound), ("pub-hypha/pub/dbgraph.ErrVertexAlreadyExists", Rows.laid_pub_hypha_pub_dbgraph_ErrVertexAlreadyExists), ("pub-hypha/pub/dbgraph.ErrEdgeNotFound", Rows.laid_pub_hypha_pub_dbgraph_ErrEdgeNotFound), ("pub-hypha/pub/dbgraph.ErrEdgeAlreadyExists", Rows.laid_pub_hypha_pub_dbgraph_ErrEdgeAlreadyExists), ("pub-hypha/pub/dbgraph.ErrEdgeCreatesCycle", Rows.laid_pub_hypha_pub_dbgraph_ErrEdgeCreatesCycle), ("pub-hypha/pub/dbgraph.ErrVertexHasEdges", Rows.laid_pub_hypha_pub_dbgraph_ErrVertexHasEdges)] [.data, .data, .data, .sentinel, .sentinel, .sentinel, .sentinel, .sentinel, .sentinel] true :=
  Program.laidByTextLater.sub seatTie1 ["math/bits.deBruijn32tab", "math/bits.deBruijn64tab", "internal/strconv.uint64pow10", "pub-hypha/pub/dbgraph.ErrVertexNotFound", "pub-hypha/pub/dbgraph.ErrVertexAlreadyExists", "pub-hypha/pub/dbgraph.ErrEdgeNotFound", "pub-hypha/pub/dbgraph.ErrEdgeAlreadyExists", "pub-hypha/pub/dbgraph.ErrEdgeCreatesCycle", "pub-hypha/pub/dbgraph.ErrVertexHasEdges"] (by kernel_rfl) (by kernel_rfl)
theorem fnStoreChange_row_tie : Rows.fnStoreChangeRow.laidByTextAt .later Tryz.pinned [.data, .data, .data, .sentinel, .sentinel, .sentinel, .sentinel, .sentinel, .sentinel] true :=
  OpenClaim.laidByTextAt_later rfl rfl tie noOwnUnsafe
theorem fnStorePair_row_tie : Rows.fnStorePairRow.laidByTextAt .later Tryz.pinned [.data, .data, .data, .sentinel, .sentinel, .sentinel, .sentinel, .sentinel, .sentinel] true :=
  OpenClaim.laidByTextAt_later rfl rfl tie noOwnUnsafe
theorem fnStore_row_tie : Rows.fnStoreRow.laidByTextAt .later Tryz.pinned [.data, .data, .data, .sentinel, .sentinel, .sentinel, .sentinel, .sentinel, .sentinel] true :=
  OpenClaim.laidByTextAt_later rfl rfl tie noOwnUnsafe
theorem fnStoreAbsent_row_tie : Rows.fnStoreAbsentRow.laidByTextAt .later Tryz.pinned [.data, .data, .data, .sentinel, .sentinel, .sentinel, .sentinel, .sentinel, .sentinel] true :=
  OpenClaim.laidByTextAt_later rfl rfl tie noOwnUnsafe
theorem fnStoreAcyclic_row_tie : Rows.fnStoreAcyclicRow.laidByTextAt .later Tryz.pinned [.data, .data, .data, .sentinel, .sentinel, .sentinel, .sentinel, .sentinel, .sentinel] true :=
  OpenClaim.laidByTextAt_later rfl rfl tie noOwnUnsafe
theorem fnStoreBoth_row_tie : Rows.fnStoreBothRow.laidByTextAt .later Tryz.pinned [.data, .data, .data, .sentinel, .sentinel, .sentinel, .sentinel, .sentinel, .sentinel] true :=
  OpenClaim.laidByTextAt_later rfl rfl tie noOwnUnsafe
theorem fnStoreHash_row_tie : Rows.fnStoreHashRow.laidByTextAt .later Tryz.pinned [.data, .data, .data, .sentinel, .sentinel, .sentinel, .sentinel, .sentinel, .sentinel] true :=
  OpenClaim.laidByTextAt_later rfl rfl tie noOwnUnsafe
theorem fnStoreNames_row_tie : Rows.fnStoreNamesRow.laidByTextAt .later Tryz.pinned [.data, .data, .data, .sentinel, .sentinel, .sentinel, .sentinel, .sentinel, .sentinel] true :=
  OpenClaim.laidByTextAt_later rfl rfl tie noOwnUnsafe
theorem fnStoreEmptied_row_tie : Rows.fnStoreEmptiedRow.laidByTextAt .later Tryz.pinned [.data, .data, .data, .sentinel, .sentinel, .sentinel, .sentinel, .sentinel, .sentinel] true :=
  OpenClaim.laidByTextAt_later rfl rfl tie noOwnUnsafe
theorem fnStoreTwice_row_tie : Rows.fnStoreTwiceRow.laidByTextAt .later Tryz.pinned [.data, .data, .data, .sentinel, .sentinel, .sentinel, .sentinel, .sentinel, .sentinel] true :=
  OpenClaim.laidByTextAt_later rfl rfl tie noOwnUnsafe
theorem fnTraits_row_tie : Rows.fnTraitsRow.laidByTextAt .later Tryz.pinned [.data, .data, .data, .sentinel, .sentinel, .sentinel, .sentinel, .sentinel, .sentinel] true :=
  OpenClaim.laidByTextAt_later rfl rfl tie noOwnUnsafe
theorem fnCloneStore_row_tie : Rows.fnCloneStoreRow.laidByTextAt .later Tryz.pinned [.data, .data, .data, .sentinel, .sentinel, .sentinel, .sentinel, .sentinel, .sentinel] true :=
  OpenClaim.laidByTextAt_later rfl rfl tie noOwnUnsafe
theorem fnFromStore_row_tie : Rows.fnFromStoreRow.laidByTextAt .later Tryz.pinned [.data, .data, .data, .sentinel, .sentinel, .sentinel, .sentinel, .sentinel, .sentinel] true :=
  OpenClaim.laidByTextAt_later rfl rfl tie noOwnUnsafe
theorem fnStoreChangeUpto_row_tie : Rows.fnStoreChangeUptoRow.laidByTextAt .later Tryz.pinned [.data, .data, .data, .sentinel, .sentinel, .sentinel, .sentinel, .sentinel, .sentinel] true :=
  OpenClaim.laidByTextAt_later rfl rfl tie noOwnUnsafe
theorem fnStorePairUpto_row_tie : Rows.fnStorePairUptoRow.laidByTextAt .later Tryz.pinned [.data, .data, .data, .sentinel, .sentinel, .sentinel, .sentinel, .sentinel, .sentinel] true :=
  OpenClaim.laidByTextAt_later rfl rfl tie noOwnUnsafe
theorem fnStoreUpto_row_tie : Rows.fnStoreUptoRow.laidByTextAt .later Tryz.pinned [.data, .data, .data, .sentinel, .sentinel, .sentinel, .sentinel, .sentinel, .sentinel] true :=
  OpenClaim.laidByTextAt_later rfl rfl tie noOwnUnsafe
theorem fnStoreAbsentUpto_row_tie : Rows.fnStoreAbsentUptoRow.laidByTextAt .later Tryz.pinned [.data, .data, .data, .sentinel, .sentinel, .sentinel, .sentinel, .sentinel, .sentinel] true :=
  OpenClaim.laidByTextAt_later rfl rfl tie noOwnUnsafe
theorem fnStoreAcyclicUpto_row_tie : Rows.fnStoreAcyclicUptoRow.laidByTextAt .later Tryz.pinned [.data, .data, .data, .sentinel, .sentinel, .sentinel, .sentinel, .sentinel, .sentinel] true :=
  OpenClaim.laidByTextAt_later rfl rfl tie noOwnUnsafe
theorem fnStoreBothUpto_row_tie : Rows.fnStoreBothUptoRow.laidByTextAt .later Tryz.pinned [.data, .data, .data, .sentinel, .sentinel, .sentinel, .sentinel, .sentinel, .sentinel] true :=
  OpenClaim.laidByTextAt_later rfl rfl tie noOwnUnsafe
theorem fnStoreHashUpto_row_tie : Rows.fnStoreHashUptoRow.laidByTextAt .later Tryz.pinned [.data, .data, .data, .sentinel, .sentinel, .sentinel, .sentinel, .sentinel, .sentinel] true :=
  OpenClaim.laidByTextAt_later rfl rfl tie noOwnUnsafe
theorem fnStoreNamesUpto_row_tie : Rows.fnStoreNamesUptoRow.laidByTextAt .later Tryz.pinned [.data, .data, .data, .sentinel, .sentinel, .sentinel, .sentinel, .sentinel, .sentinel] true :=
  OpenClaim.laidByTextAt_later rfl rfl tie noOwnUnsafe
theorem fnStoreEmptiedUpto_row_tie : Rows.fnStoreEmptiedUptoRow.laidByTextAt .later Tryz.pinned [.data, .data, .data, .sentinel, .sentinel, .sentinel, .sentinel, .sentinel, .sentinel] true :=
  OpenClaim.laidByTextAt_later rfl rfl tie noOwnUnsafe
theorem fnStoreTwiceUpto_row_tie : Rows.fnStoreTwiceUptoRow.laidByTextAt .later Tryz.pinned [.data, .data, .data, .sentinel, .sentinel, .sentinel, .sentinel, .sentinel, .sentinel] true :=
  OpenClaim.laidByTextAt_later rfl rfl tie noOwnUnsafe
theorem fnTraitsUpto_row_tie : Rows.fnTraitsUptoRow.laidByTextAt .later Tryz.pinned [.data, .data, .data, .sentinel, .sentinel, .sentinel, .sentinel, .sentinel, .sentinel] true :=
  OpenClaim.laidByTextAt_later rfl rfl tie noOwnUnsafe
theorem fnCloneStoreUpto_row_tie : Rows.fnCloneStoreUptoRow.laidByTextAt .later Tryz.pinned [.data, .data, .data, .sentinel, .sentinel, .sentinel, .sentinel, .sentinel, .sentinel] true :=
  OpenClaim.laidByTextAt_later rfl rfl tie noOwnUnsafe
theorem fnFromStoreUpto_row_tie : Rows.fnFromStoreUptoRow.laidByTextAt .later Tryz.pinned [.data, .data, .data, .sentinel, .sentinel, .sentinel, .sentinel, .sentinel, .sentinel] true :=
  OpenClaim.laidByTextAt_later rfl rfl tie noOwnUnsafe
end Go.Proofs.YtbafaadmlpamiaaGreatDoor
