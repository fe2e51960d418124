/- Contracts of the method table: it makes a table where there is none, it keeps the one that is there. -/
import Derived.Test.YbulkbgykRows
import Derived.WalkKit
import Derived.ProofKit
import Derived.RegionTactic
import Derived.ChangeAlike
import Derived.WalkLawsBesides
import Derived.WalkSpells
import Derived.Lib.Builder
namespace Go.Proofs.Ybulkbgyk
open Go.ChangeShapes Go.WideShapes Go.ChangeAt Go.RowKit
set_option linter.unusedVariables false

theorem size43 : (Yba.prog.info? 43).isSome = true := by kernel_rfl
theorem ptrneq (a : Addr) (w : World) : (binOp .neq 23 (.pointer (some a)) (.pointer (some a))).run Yba.prog w = .ok (.bool false) w := by
  obtain ⟨j, hj⟩ := Option.isSome_iff_exists.1 size43
  exact Lib.run_neq_ptr_same w a Yba.underlying23 hj

abbrev tbl0 (blk : Nat) : Array Value := #[.slice (some ⟨blk, 3, none⟩) 0 2, .slice none 0 0, .pointer none, .string { data := #[] }, .int .u64 0, .int .i64 0, .pointer none, .string { data := #[] }, .int .u64 0, .int .i64 0, .pointer none]

set_option maxRecDepth 100000 in
set_option maxHeartbeats 1000000 in
theorem table_makes (b o : Nat) (w : World) (hc : w.cell? ⟨b, o, none⟩ = some (.pointer none)) (hf : w.frozen? ⟨b, o, none⟩ = false) (hb : b < w.heap.size) :
    Calls Yba.prog 5 #[.pointer (some ⟨b, o, none⟩)] w fun e w' => e = .returned (.pointer (some ⟨w.heap.size, 0, none⟩)) ∧ ((w.setCell ⟨b, o, none⟩ (.pointer (some ⟨w.heap.size, 0, none⟩))).alloc (.cells (tbl0 w.heap.size) 43)).drew = w' := by
  go_enter Yba.func5, Yba.ntmps5
  go_wp2
  go_region
  go_wp2
  go_ret
  exact ⟨rfl, rfl⟩

set_option maxRecDepth 100000 in
theorem table_keeps (b o : Nat) (a : Addr) (w : World) (hc : w.cell? ⟨b, o, none⟩ = some (.pointer (some a)))  :
    Calls Yba.prog 5 #[.pointer (some ⟨b, o, none⟩)] w fun e w' => e = .returned (.pointer (some a)) ∧ w = w' := by
  go_enter Yba.func5, Yba.ntmps5
  go_wp2
  go_ret
  exact ⟨rfl, rfl⟩

end Go.Proofs.Ybulkbgyk
