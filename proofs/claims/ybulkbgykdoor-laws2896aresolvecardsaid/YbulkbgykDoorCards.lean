/-
  DERIVED. GIVEN WITH THE SEED: THE CARDS: each row of YbulkbgykDoorRows.lean that lists a variable, with what it lists TIED to the program's text (the seventh form; the later family's looks); each row that meets fmt, with fmt's text TOLD by the authors' own Lean function (tested against real Go, not proved from fmt's source: count such statements apart). THE CARD IS WHAT COUNTS. Prove the row's statement (the work); the ties are given (YbulkbgykDoorTie.lean); close each card by the builder's one call (the guide's Derived/Test/ToyasCard.lean, 'card_holds'). Laid BY PROGRAM, IN A SANDBOX (cutbox-door.mjs). By AI agents, Wed Nov 11 2026. No macro, syntax, notation, axiom, sorry.
-/
import Derived.Test.YbulkbgykDoorRows
import GoSem.ClaimSeven
namespace Go.Proofs.YbulkbgykDoor
namespace Rows

/-- THE TIED CARD OF 'scopewell.LawS2896AResolve'. -/
def lawS2896AResolveCard : Claim7 := { stood := { row := lawS2896AResolveRow, standIns := [], harness := (true, "cae558a5039a1830ae2f85f9d6b76c5da1aa1d7e38cb2be7145c058976db7584"), looks := true }, kinds := [], alts := [], laidByText := true, laidKinds := [.called, .sentinel, .sentinel], laidTests := true, laidLooks := .later }
def LawS2896AResolveCardSaid : Prop := Claim7.holds Ybad.pinned (.plain (OpenSpec.ofChange lawS2896AResolveSpec)) lawS2896AResolveCard

/-- THE TIED CARD OF 'scopewell.LawS2896CNil'. -/
def lawS2896CNilCard : Claim7 := { stood := { row := lawS2896CNilRow, standIns := [], harness := (true, "cae558a5039a1830ae2f85f9d6b76c5da1aa1d7e38cb2be7145c058976db7584"), looks := true }, kinds := [], alts := [], laidByText := true, laidKinds := [.sentinel, .sentinel], laidTests := true, laidLooks := .later }
def LawS2896CNilCardSaid : Prop := Claim7.holds Ybad.pinned (.plain (OpenSpec.ofChange lawS2896CNilSpec)) lawS2896CNilCard

/-- THE TIED CARD OF 'scopewell.LawS2896CRoom'. -/
def lawS2896CRoomCard : Claim7 := { stood := { row := lawS2896CRoomRow, standIns := [], harness := (true, "cae558a5039a1830ae2f85f9d6b76c5da1aa1d7e38cb2be7145c058976db7584"), looks := true }, kinds := [], alts := [], laidByText := true, laidKinds := [.sentinel, .sentinel], laidTests := true, laidLooks := .later }
def LawS2896CRoomCardSaid : Prop := Claim7.holds Ybad.pinned (.plain (OpenSpec.ofChange lawS2896CRoomSpec)) lawS2896CRoomCard

/-- THE TIED CARD OF 'scopewell.LawS2896CEdge'. -/
def lawS2896CEdgeCard : Claim7 := { stood := { row := lawS2896CEdgeRow, standIns := [], harness := (true, "cae558a5039a1830ae2f85f9d6b76c5da1aa1d7e38cb2be7145c058976db7584"), looks := true }, kinds := [], alts := [], laidByText := true, laidKinds := [.sentinel, .sentinel], laidTests := true, laidLooks := .later }
def LawS2896CEdgeCardSaid : Prop := Claim7.holds Ybad.pinned (.plain (OpenSpec.ofChange lawS2896CEdgeSpec)) lawS2896CEdgeCard
end Rows
end Go.Proofs.YbulkbgykDoor
