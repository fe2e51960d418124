/-
  No cell of these rows narrows 'for every input' (looked for: loops, veiled, ifaces, maps, wideKeys, modest, calm, conditions, laid).
  DERIVED. THE GIVEN ROWS OF THIS SEAT. 2 by the template 'for every input the law returns true; each argument reads behind the call as it read before'; 0 by the template 'total and deterministic' (their statements: YbulkbhbqTotals.lean).
  GIVEN WITH THE SEED: the statements are not yours to turn. If you find one false, say at which input.
  Laid BY PROGRAM, IN A SANDBOX (cutbox-rows.mjs): the forced cells as the released guide's own fill.sh prints them over the translation 8ba0f07972b56190… (all of the seat's roots in one cut). By AI agents, Wed Nov 11 2026. No macro, syntax, notation, axiom, sorry.
-/
import Derived.Test.YbulkbhbqChecked
import GoSem.Claim
import GoSem.ClaimJoined
import GoSem.ClaimMapViews
import Derived.JoinedTies
import Derived.KernelRfl
namespace Go.Proofs.Ybulkbhbq
/- THE CELL 'sum', in the pinned program and in every row, IS THE sha256 OF THE DUMP (.gsa) THAT YbulkbhbqProg.lean LOADS. Nothing in Lean hashes anything: it is a label: what it is worth is what the hold of that sum in a sandbox is worth. -/
noncomputable def Yba.pinned : Pinned := { name := "ybulkbhbq", sum := "8ba0f07972b5619082fa8a98900593921c53e3cd97d42bf214e576a6f8d18403", checked := Yba.checked }
namespace Rows
def none {H : Type} : Left H := { results := [], args := [] }

/-- 'binade.LawS2902BNarrow': WHATEVER THE INPUT: true; the input reads as it did. -/
def lawS2902BNarrowSpec : ChangeSpec := { name := "lawS2902BNarrow", fn := fun _ => fun
  | [d1, d2, d3, d4] => { results := [.lit (.bool true)], args := [d1, d2, d3, d4] }
  | _ => none }
def lawS2902BNarrowRow : OpenClaim := { program := "ybulkbhbq", sum := "8ba0f07972b5619082fa8a98900593921c53e3cd97d42bf214e576a6f8d18403", func := "example.com/binade/binade.LawS2902BNarrow", spec := "lawS2902BNarrow", apart := false }
def LawS2902BNarrowSaid : Prop := lawS2902BNarrowRow.holds Yba.pinned (OpenSpec.ofChange lawS2902BNarrowSpec)

/-- ITS FALSE NEIGHBOUR: 'it returns false'. Refute it at one input. -/
def lawS2902BNarrowWrong : ChangeSpec := { name := "lawS2902BNarrow", fn := fun _ => fun
  | [d1, d2, d3, d4] => { results := [.lit (.bool false)], args := [d1, d2, d3, d4] }
  | _ => none }
def LawS2902BNarrowWrongFalsely : Prop := lawS2902BNarrowRow.holds Yba.pinned (OpenSpec.ofChange lawS2902BNarrowWrong)

/-- 'binade.LawS2902CLayout': WHATEVER THE INPUT: true; the input reads as it did. -/
def lawS2902CLayoutSpec : ChangeSpec := { name := "lawS2902CLayout", fn := fun _ => fun
  | [d1, d2, d3, d4, d5, d6, d7] => { results := [.lit (.bool true)], args := [d1, d2, d3, d4, d5, d6, d7] }
  | _ => none }
def lawS2902CLayoutRow : OpenClaim := { program := "ybulkbhbq", sum := "8ba0f07972b5619082fa8a98900593921c53e3cd97d42bf214e576a6f8d18403", func := "example.com/binade/binade.LawS2902CLayout", spec := "lawS2902CLayout", apart := false }
def LawS2902CLayoutSaid : Prop := lawS2902CLayoutRow.holds Yba.pinned (OpenSpec.ofChange lawS2902CLayoutSpec)

/-- ITS FALSE NEIGHBOUR: 'it returns false'. Refute it at one input. -/
def lawS2902CLayoutWrong : ChangeSpec := { name := "lawS2902CLayout", fn := fun _ => fun
  | [d1, d2, d3, d4, d5, d6, d7] => { results := [.lit (.bool false)], args := [d1, d2, d3, d4, d5, d6, d7] }
  | _ => none }
def LawS2902CLayoutWrongFalsely : Prop := lawS2902CLayoutRow.holds Yba.pinned (OpenSpec.ofChange lawS2902CLayoutWrong)

end Rows
end Go.Proofs.Ybulkbhbq
