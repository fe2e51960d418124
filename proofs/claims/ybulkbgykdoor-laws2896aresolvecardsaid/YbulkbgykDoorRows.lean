/-
  NARROWER THAN 'FOR EVERY INPUT', by the rows' own cells (each row's printed sentence says how): LawS2896AResolve: ifaces, laid · LawS2896CNil: ifaces, laid · LawS2896CRoom: ifaces, laid · LawS2896CEdge: ifaces, laid.
  DERIVED. THE GIVEN ROWS OF THIS SEAT. 4 by the template 'for every input the law returns true; each argument reads behind the call as it read before'; 0 by the template 'total and deterministic' (their statements: YbulkbgykDoorTotals.lean).
  GIVEN WITH THE SEED: the statements are not yours to turn. If you find one false, say at which input.
  Laid BY PROGRAM, IN A SANDBOX (cutbox-rows.mjs): the forced cells as the released guide's own fill.sh prints them over the translation ab046b45b375c01f… (all of the seat's roots in one cut). By AI agents, Wed Nov 11 2026. No macro, syntax, notation, axiom, sorry.
-/
import Derived.Test.YbulkbgykDoorChecked
import GoSem.Claim
import GoSem.ClaimJoined
import GoSem.ClaimMapViews
import Derived.JoinedTies
import Derived.KernelRfl
namespace Go.Proofs.YbulkbgykDoor
/- THE CELL 'sum', in the pinned program and in every row, IS THE sha256 OF THE DUMP (.gsa) THAT YbulkbgykDoorProg.lean LOADS. Nothing in Lean hashes anything: it is a label: what it is worth is what the hold of that sum in a sandbox is worth. -/
noncomputable def Ybad.pinned : Pinned := { name := "ybulkbgykdoor", sum := "ab046b45b375c01f5d632fd49fe23157f0677d6c60824fbb0ee9f3e473926e04", checked := Ybad.checked }
namespace Rows
def none {H : Type} : Left H := { results := [], args := [] }

/- WHAT THE LISTED PACKAGE-LEVEL VARIABLES READ AS WHEN THE CALL BEGINS. Each datum BY PROGRAM (the guide's laid-datum.mjs) off the statement by which the dump's own 'gosem.cut.vars' lays the variable. In a bare row this is a premise. The card (YbulkbgykDoorCards.lean) ties it to the program's text. -/
def laid_example_com_scopewell_scopewell_ErrHostFrame {H : Type} : DataW H := .iface "*errors.errorString" (.ptr (.agg [.lit (.string [104, 111, 115, 116, 32, 102, 114, 97, 109, 101, 32, 104, 111, 108, 100, 115, 32, 110, 111, 32, 115, 99, 111, 112, 101])]))
def laid_example_com_scopewell_scopewell_ErrNamespaceNotFound {H : Type} : DataW H := .iface "*errors.errorString" (.ptr (.agg [.lit (.string [110, 97, 109, 101, 115, 112, 97, 99, 101, 32, 110, 111, 116, 32, 102, 111, 117, 110, 100])]))
def laid_example_com_scopewell_scopewell_ErrNamespaceOpen {H : Type} : DataW H := .iface "*errors.errorString" (.ptr (.agg [.lit (.string [110, 97, 109, 101, 115, 112, 97, 99, 101, 32, 105, 115, 32, 115, 116, 105, 108, 108, 32, 111, 112, 101, 110])]))
def laid_example_com_scopewell_scopewell_ErrMaxDepth {H : Type} : DataW H := .iface "*errors.errorString" (.ptr (.agg [.lit (.string [115, 116, 97, 99, 107, 32, 105, 115, 32, 97, 116, 32, 105, 116, 115, 32, 109, 97, 120, 105, 109, 117, 109, 32, 100, 101, 112, 116, 104])]))
def laid_example_com_scopewell_scopewell_ErrNilStack {H : Type} : DataW H := .iface "*errors.errorString" (.ptr (.agg [.lit (.string [110, 105, 108, 32, 115, 116, 97, 99, 107])]))

/-- 'scopewell.LawS2896AResolve': WHATEVER THE INPUT: true; the input reads as it did. -/
def lawS2896AResolveSpec : ChangeSpec := { name := "lawS2896AResolve", vars := ["example.com/scopewell/scopewell.ErrHostFrame", "example.com/scopewell/scopewell.ErrNamespaceNotFound", "example.com/scopewell/scopewell.ErrNamespaceOpen"], fn := fun _ => fun
  | [d1, d2, d3, d4, d5, d6, g1, g2, g3] => { results := [.lit (.bool true)], args := [d1, d2, d3, d4, d5, d6], vars := [g1, g2, g3] }
  | _ => none }
def lawS2896AResolveRow : OpenClaim := { program := "ybulkbgykdoor", sum := "ab046b45b375c01f5d632fd49fe23157f0677d6c60824fbb0ee9f3e473926e04", func := "example.com/scopewell/scopewell.LawS2896AResolve", spec := "lawS2896AResolve", inPlace := ["sync/atomic.LoadUint64", "(*internal/sync.Mutex).Lock", "internal/race.Disable", "sync/atomic.CompareAndSwapInt32", "internal/race.Enable", "internal/race.Acquire", "(*internal/sync.Mutex).lockSlow", "internal/sync.runtime_canSpin", "internal/sync.runtime_doSpin", "internal/sync.throw", "internal/sync.runtime_nanotime", "internal/sync.runtime_SemacquireMutex", "sync/atomic.AddInt32", "(*internal/sync.Mutex).Unlock", "internal/race.ReleaseMerge", "(*internal/sync.Mutex).unlockSlow", "internal/sync.fatal", "internal/sync.runtime_Semrelease"], named := ["example.com/scopewell/scopewell.ErrHostFrame", "example.com/scopewell/scopewell.ErrNamespaceNotFound", "example.com/scopewell/scopewell.ErrNamespaceOpen"], ifaces := true, apart := false, laid := [("example.com/scopewell/scopewell.ErrHostFrame", laid_example_com_scopewell_scopewell_ErrHostFrame), ("example.com/scopewell/scopewell.ErrNamespaceNotFound", laid_example_com_scopewell_scopewell_ErrNamespaceNotFound), ("example.com/scopewell/scopewell.ErrNamespaceOpen", laid_example_com_scopewell_scopewell_ErrNamespaceOpen)] }
def LawS2896AResolveSaid : Prop := lawS2896AResolveRow.holds Ybad.pinned (OpenSpec.ofChange lawS2896AResolveSpec)

/-- ITS FALSE NEIGHBOUR: 'it returns false'. Refute it at one input. -/
def lawS2896AResolveWrong : ChangeSpec := { name := "lawS2896AResolve", vars := ["example.com/scopewell/scopewell.ErrHostFrame", "example.com/scopewell/scopewell.ErrNamespaceNotFound", "example.com/scopewell/scopewell.ErrNamespaceOpen"], fn := fun _ => fun
  | [d1, d2, d3, d4, d5, d6, g1, g2, g3] => { results := [.lit (.bool false)], args := [d1, d2, d3, d4, d5, d6], vars := [g1, g2, g3] }
  | _ => none }
def LawS2896AResolveWrongFalsely : Prop := lawS2896AResolveRow.holds Ybad.pinned (OpenSpec.ofChange lawS2896AResolveWrong)

/-- 'scopewell.LawS2896CNil': WHATEVER THE INPUT: true; the input reads as it did. -/
def lawS2896CNilSpec : ChangeSpec := { name := "lawS2896CNil", vars := ["example.com/scopewell/scopewell.ErrNilStack", "example.com/scopewell/scopewell.ErrMaxDepth"], fn := fun _ => fun
  | [d, g1, g2] => { results := [.lit (.bool true)], args := [d], vars := [g1, g2] }
  | _ => none }
def lawS2896CNilRow : OpenClaim := { program := "ybulkbgykdoor", sum := "ab046b45b375c01f5d632fd49fe23157f0677d6c60824fbb0ee9f3e473926e04", func := "example.com/scopewell/scopewell.LawS2896CNil", spec := "lawS2896CNil", named := ["example.com/scopewell/scopewell.ErrNilStack", "example.com/scopewell/scopewell.ErrMaxDepth"], ifaces := true, apart := false, laid := [("example.com/scopewell/scopewell.ErrMaxDepth", laid_example_com_scopewell_scopewell_ErrMaxDepth), ("example.com/scopewell/scopewell.ErrNilStack", laid_example_com_scopewell_scopewell_ErrNilStack)] }
def LawS2896CNilSaid : Prop := lawS2896CNilRow.holds Ybad.pinned (OpenSpec.ofChange lawS2896CNilSpec)

/-- ITS FALSE NEIGHBOUR: 'it returns false'. Refute it at one input. -/
def lawS2896CNilWrong : ChangeSpec := { name := "lawS2896CNil", vars := ["example.com/scopewell/scopewell.ErrNilStack", "example.com/scopewell/scopewell.ErrMaxDepth"], fn := fun _ => fun
  | [d, g1, g2] => { results := [.lit (.bool false)], args := [d], vars := [g1, g2] }
  | _ => none }
def LawS2896CNilWrongFalsely : Prop := lawS2896CNilRow.holds Ybad.pinned (OpenSpec.ofChange lawS2896CNilWrong)

/-- 'scopewell.LawS2896CRoom': WHATEVER THE INPUT: true; the input reads as it did. -/
def lawS2896CRoomSpec : ChangeSpec := { name := "lawS2896CRoom", vars := ["example.com/scopewell/scopewell.ErrMaxDepth", "example.com/scopewell/scopewell.ErrNilStack"], fn := fun _ => fun
  | [d1, d2, g1, g2] => { results := [.lit (.bool true)], args := [d1, d2], vars := [g1, g2] }
  | _ => none }
def lawS2896CRoomRow : OpenClaim := { program := "ybulkbgykdoor", sum := "ab046b45b375c01f5d632fd49fe23157f0677d6c60824fbb0ee9f3e473926e04", func := "example.com/scopewell/scopewell.LawS2896CRoom", spec := "lawS2896CRoom", named := ["example.com/scopewell/scopewell.ErrMaxDepth", "example.com/scopewell/scopewell.ErrNilStack"], ifaces := true, apart := false, laid := [("example.com/scopewell/scopewell.ErrMaxDepth", laid_example_com_scopewell_scopewell_ErrMaxDepth), ("example.com/scopewell/scopewell.ErrNilStack", laid_example_com_scopewell_scopewell_ErrNilStack)] }
def LawS2896CRoomSaid : Prop := lawS2896CRoomRow.holds Ybad.pinned (OpenSpec.ofChange lawS2896CRoomSpec)

/-- ITS FALSE NEIGHBOUR: 'it returns false'. Refute it at one input. -/
def lawS2896CRoomWrong : ChangeSpec := { name := "lawS2896CRoom", vars := ["example.com/scopewell/scopewell.ErrMaxDepth", "example.com/scopewell/scopewell.ErrNilStack"], fn := fun _ => fun
  | [d1, d2, g1, g2] => { results := [.lit (.bool false)], args := [d1, d2], vars := [g1, g2] }
  | _ => none }
def LawS2896CRoomWrongFalsely : Prop := lawS2896CRoomRow.holds Ybad.pinned (OpenSpec.ofChange lawS2896CRoomWrong)

/-- 'scopewell.LawS2896CEdge': WHATEVER THE INPUT: true; the input reads as it did. -/
def lawS2896CEdgeSpec : ChangeSpec := { name := "lawS2896CEdge", vars := ["example.com/scopewell/scopewell.ErrMaxDepth", "example.com/scopewell/scopewell.ErrNilStack"], fn := fun _ => fun
  | [d1, d2, d3, g1, g2] => { results := [.lit (.bool true)], args := [d1, d2, d3], vars := [g1, g2] }
  | _ => none }
def lawS2896CEdgeRow : OpenClaim := { program := "ybulkbgykdoor", sum := "ab046b45b375c01f5d632fd49fe23157f0677d6c60824fbb0ee9f3e473926e04", func := "example.com/scopewell/scopewell.LawS2896CEdge", spec := "lawS2896CEdge", named := ["example.com/scopewell/scopewell.ErrMaxDepth", "example.com/scopewell/scopewell.ErrNilStack"], ifaces := true, apart := false, laid := [("example.com/scopewell/scopewell.ErrMaxDepth", laid_example_com_scopewell_scopewell_ErrMaxDepth), ("example.com/scopewell/scopewell.ErrNilStack", laid_example_com_scopewell_scopewell_ErrNilStack)] }
def LawS2896CEdgeSaid : Prop := lawS2896CEdgeRow.holds Ybad.pinned (OpenSpec.ofChange lawS2896CEdgeSpec)

/-- ITS FALSE NEIGHBOUR: 'it returns false'. Refute it at one input. -/
def lawS2896CEdgeWrong : ChangeSpec := { name := "lawS2896CEdge", vars := ["example.com/scopewell/scopewell.ErrMaxDepth", "example.com/scopewell/scopewell.ErrNilStack"], fn := fun _ => fun
  | [d1, d2, d3, g1, g2] => { results := [.lit (.bool false)], args := [d1, d2, d3], vars := [g1, g2] }
  | _ => none }
def LawS2896CEdgeWrongFalsely : Prop := lawS2896CEdgeRow.holds Ybad.pinned (OpenSpec.ofChange lawS2896CEdgeWrong)

end Rows
end Go.Proofs.YbulkbgykDoor
