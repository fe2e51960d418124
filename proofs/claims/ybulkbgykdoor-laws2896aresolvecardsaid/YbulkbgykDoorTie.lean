/-
  DERIVED. GIVEN WITH THE SEED: THE PROGRAM's TIES (one call each: nine closed facts by the kernel) AND EACH ROW's TIE, after the 31st guide's Derived/Test/Toyas{Tie, Card}.lean. No idea stands in it: it is a product of the set-up. Laid BY PROGRAM, IN A SANDBOX (cutbox-door.mjs). By AI agents, Wed Nov 11 2026. No macro, syntax, notation, axiom, sorry.
-/
import Derived.Test.YbulkbgykDoorRows
import Derived.LaidByTextLater
import Derived.SevenTiedAt
import Derived.LaidSub
import Derived.LaidOnce
namespace Go.Proofs.YbulkbgykDoor
open Go
set_option maxRecDepth 100000
theorem seatTie1 : Ybad.prog.laidByTextLater [("example.com/scopewell/scopewell.ErrHostFrame", Rows.laid_example_com_scopewell_scopewell_ErrHostFrame), ("example.com/scopewell/scopewell.ErrMaxDepth", Rows.laid_example_com_scopewell_scopewell_ErrMaxDepth), ("example.com/scopewell/scopewell.ErrNilStack", Rows.laid_example_com_scopewell_scopewell_ErrNilStack), ("example.com/scopewell/scopewell.ErrNamespaceNotFound", Rows.laid_example_com_scopewell_scopewell_ErrNamespaceNotFound), ("example.com/scopewell/scopewell.ErrNamespaceOpen", Rows.laid_example_com_scopewell_scopewell_ErrNamespaceOpen)] [.called, .sentinel, .sentinel, .sentinel, .sentinel] true :=
  Program.laidByTextLater_by_one 104 8 2 (by kernel_rfl) (by kernel_rfl) (by kernel_rfl) (by kernel_rfl) (by kernel_rfl) (by kernel_rfl) (fun _ _ => by kernel_rfl)
theorem noOwnUnsafe : Ybad.pinned.checked.prog.headLifts.contains "ownunsafe" = false := by kernel_rfl
theorem tie : Ybad.prog.laidByTextLater [("example.com/scopewell/scopewell.ErrHostFrame", Rows.laid_example_com_scopewell_scopewell_ErrHostFrame), ("example.com/scopewell/scopewell.ErrNamespaceNotFound", Rows.laid_example_com_scopewell_scopewell_ErrNamespaceNotFound), ("example.com/scopewell/scopewell.ErrNamespaceOpen", Rows.laid_example_com_scopewell_scopewell_ErrNamespaceOpen)] [.called, .sentinel, .sentinel] true :=
  Program.laidByTextLater.sub seatTie1 ["example.com/scopewell/scopewell.ErrHostFrame", "example.com/scopewell/scopewell.ErrNamespaceNotFound", "example.com/scopewell/scopewell.ErrNamespaceOpen"] (by kernel_rfl) (by kernel_rfl)
theorem lawS2896AResolve_row_tie : Rows.lawS2896AResolveRow.laidByTextAt .later Ybad.pinned [.called, .sentinel, .sentinel] true :=
  OpenClaim.laidByTextAt_later rfl rfl tie noOwnUnsafe
theorem tie2 : Ybad.prog.laidByTextLater [("example.com/scopewell/scopewell.ErrMaxDepth", Rows.laid_example_com_scopewell_scopewell_ErrMaxDepth), ("example.com/scopewell/scopewell.ErrNilStack", Rows.laid_example_com_scopewell_scopewell_ErrNilStack)] [.sentinel, .sentinel] true :=
  Program.laidByTextLater.sub seatTie1 ["example.com/scopewell/scopewell.ErrMaxDepth", "example.com/scopewell/scopewell.ErrNilStack"] (by kernel_rfl) (by kernel_rfl)
theorem lawS2896CNil_row_tie : Rows.lawS2896CNilRow.laidByTextAt .later Ybad.pinned [.sentinel, .sentinel] true :=
  OpenClaim.laidByTextAt_later rfl rfl tie2 noOwnUnsafe
theorem lawS2896CRoom_row_tie : Rows.lawS2896CRoomRow.laidByTextAt .later Ybad.pinned [.sentinel, .sentinel] true :=
  OpenClaim.laidByTextAt_later rfl rfl tie2 noOwnUnsafe
theorem lawS2896CEdge_row_tie : Rows.lawS2896CEdgeRow.laidByTextAt .later Ybad.pinned [.sentinel, .sentinel] true :=
  OpenClaim.laidByTextAt_later rfl rfl tie2 noOwnUnsafe
end Go.Proofs.YbulkbgykDoor
