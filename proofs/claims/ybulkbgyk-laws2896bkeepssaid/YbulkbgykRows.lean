/-
  No cell of these rows narrows 'for every input' (looked for: loops, veiled, ifaces, maps, wideKeys, modest, calm, conditions, laid).
  DERIVED. THE GIVEN ROWS OF THIS SEAT. 2 by the template 'for every input the law returns true; each argument reads behind the call as it read before'; 0 by the template 'total and deterministic' (their statements: YbulkbgykTotals.lean).
  GIVEN WITH THE SEED: the statements are not yours to turn. If you find one false, say at which input.
  Laid BY PROGRAM, IN A SANDBOX (cutbox-rows.mjs): the forced cells as the released guide's own fill.sh prints them over the translation 730470245944b3be… (all of the seat's roots in one cut). By AI agents, Wed Nov 11 2026. No macro, syntax, notation, axiom, sorry.
-/
import Derived.Test.YbulkbgykChecked
import GoSem.Claim
import GoSem.ClaimJoined
import GoSem.ClaimMapViews
import Derived.JoinedTies
import Derived.KernelRfl
namespace Go.Proofs.Ybulkbgyk
/- THE CELL 'sum', in the pinned program and in every row, IS THE sha256 OF THE DUMP (.gsa) THAT YbulkbgykProg.lean LOADS. Nothing in Lean hashes anything: it is a label: what it is worth is what the hold of that sum in a sandbox is worth. -/
noncomputable def Yba.pinned : Pinned := { name := "ybulkbgyk", sum := "730470245944b3beb3f4da67d899ca58970a5d83da69fcfe7201fbade88c4f05", checked := Yba.checked }
namespace Rows
def none {H : Type} : Left H := { results := [], args := [] }

/-- 'scopewell.LawS2896BMakes': WHATEVER THE INPUT: true; the input reads as it did. -/
def lawS2896BMakesSpec : ChangeSpec := { name := "lawS2896BMakes", fn := fun _ => fun
  | [d1, d2] => { results := [.lit (.bool true)], args := [d1, d2] }
  | _ => none }
def lawS2896BMakesRow : OpenClaim := { program := "ybulkbgyk", sum := "730470245944b3beb3f4da67d899ca58970a5d83da69fcfe7201fbade88c4f05", func := "example.com/scopewell/scopewell.LawS2896BMakes", spec := "lawS2896BMakes", apart := false }
def LawS2896BMakesSaid : Prop := lawS2896BMakesRow.holds Yba.pinned (OpenSpec.ofChange lawS2896BMakesSpec)

/-- ITS FALSE NEIGHBOUR: 'it returns false'. Refute it at one input. -/
def lawS2896BMakesWrong : ChangeSpec := { name := "lawS2896BMakes", fn := fun _ => fun
  | [d1, d2] => { results := [.lit (.bool false)], args := [d1, d2] }
  | _ => none }
def LawS2896BMakesWrongFalsely : Prop := lawS2896BMakesRow.holds Yba.pinned (OpenSpec.ofChange lawS2896BMakesWrong)

/-- 'scopewell.LawS2896BKeeps': WHATEVER THE INPUT: true; the input reads as it did. -/
def lawS2896BKeepsSpec : ChangeSpec := { name := "lawS2896BKeeps", fn := fun _ => fun
  | [d1, d2, d3] => { results := [.lit (.bool true)], args := [d1, d2, d3] }
  | _ => none }
def lawS2896BKeepsRow : OpenClaim := { program := "ybulkbgyk", sum := "730470245944b3beb3f4da67d899ca58970a5d83da69fcfe7201fbade88c4f05", func := "example.com/scopewell/scopewell.LawS2896BKeeps", spec := "lawS2896BKeeps", apart := false }
def LawS2896BKeepsSaid : Prop := lawS2896BKeepsRow.holds Yba.pinned (OpenSpec.ofChange lawS2896BKeepsSpec)

/-- ITS FALSE NEIGHBOUR: 'it returns false'. Refute it at one input. -/
def lawS2896BKeepsWrong : ChangeSpec := { name := "lawS2896BKeeps", fn := fun _ => fun
  | [d1, d2, d3] => { results := [.lit (.bool false)], args := [d1, d2, d3] }
  | _ => none }
def LawS2896BKeepsWrongFalsely : Prop := lawS2896BKeepsRow.holds Yba.pinned (OpenSpec.ofChange lawS2896BKeepsWrong)

end Rows
end Go.Proofs.Ybulkbgyk
