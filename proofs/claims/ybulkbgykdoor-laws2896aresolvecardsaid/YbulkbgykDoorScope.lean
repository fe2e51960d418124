/- Contracts of the scope's small methods and of the lock; a chain of scopes; the environment. -/
import Derived.Test.YbulkbgykDoorRows
import Derived.Test.YbulkbgykDoorStack
import Derived.Conc.MuLone
import Derived.WalkKit
import Derived.ProofKit
import Derived.RegionTactic
import Derived.ChangeAlike
import Derived.WalkLawsBesides
import Derived.WalkSpells
import Derived.LoopTactic
import Derived.Below
namespace Go.Proofs.YbulkbgykDoor
open Go.ChangeShapes Go.WideShapes Go.ChangeAt Go.RowKit
open Go.MuLone
set_option linter.unusedVariables false

abbrev muLink : Go.Conc.Locks.MuLink := { lock := 16, unlock := 17, ilock := 22, iunlock := 23, lockSlow := 29, unlockSlow := 32, disable := 25, enable := 27, acquire := 28, relMerge := 30, cas32 := 26, add32 := 31, tMutex := 34, tIMutex := 32, tPMutex := 92, tPIMutex := 95, tPI32 := 97, tUP := 48, tNoCopy := 29, tU32 := 30 }
theorem muLib : Go.Conc.Locks.MuLib Ybad.prog muLink :=
  ⟨Ybad.func16, Ybad.func17, Ybad.func22, Ybad.func23, Ybad.func25, Ybad.func27, Ybad.func28, Ybad.func30, Ybad.func26, Ybad.func31, Ybad.underlying32, Ybad.runUnderlying32, Ybad.sizeOf32, Ybad.isAgg32, Ybad.zeroValue32, Ybad.underlying34, Ybad.runUnderlying34, Ybad.sizeOf34, Ybad.isAgg34, Ybad.zeroValue34, Ybad.underlying92, Ybad.runUnderlying92, Ybad.sizeOf92, Ybad.isAgg92, Ybad.zeroValue92, Ybad.underlying95, Ybad.runUnderlying95, Ybad.sizeOf95, Ybad.isAgg95, Ybad.zeroValue95, Ybad.underlying97, Ybad.runUnderlying97, Ybad.sizeOf97, Ybad.isAgg97, Ybad.zeroValue97, Ybad.underlying48, Ybad.runUnderlying48, Ybad.sizeOf48, Ybad.isAgg48, Ybad.zeroValue48, Ybad.underlying29, Ybad.runUnderlying29, Ybad.sizeOf29, Ybad.isAgg29, Ybad.zeroValue29, Ybad.underlying21, Ybad.runUnderlying21, Ybad.sizeOf21, Ybad.isAgg21, Ybad.zeroValue21, (by kernel_rfl)⟩
theorem lock_calls (a : Addr) (w : World) (hc : w.cell? a = some (.int .i32 0)) (hz : w.frozen? a = false) :
    Calls Ybad.prog 16 #[.pointer (some a)] w fun e w' => e = .returned (.tuple #[]) ∧ w' = w.setCell a (.int .i32 1) := lock_free muLib a w hc hz
theorem unlock_calls (a : Addr) (w : World) (hc : w.cell? a = some (.int .i32 1)) (hz : w.frozen? a = false) :
    Calls Ybad.prog 17 #[.pointer (some a)] w fun e w' => e = .returned (.tuple #[]) ∧ w' = w.setCell a (.int .i32 0) := unlock_held muLib a w hc hz

theorem load_some (b : Nat) (st : Int) (w : World) (hc : w.cell? ⟨b, 1, none⟩ = some (.int .u64 st)) :
    Calls Ybad.prog 19 #[.pointer (some ⟨b, 0, none⟩)] w fun e w' => e = .returned (.int .u64 st) ∧ w' = w := by
  have hl := run_call_load (P := Ybad.prog) Ybad.func24 (by kernel_rfl) (by kernel_rfl) (by kernel_rfl) .u64 (by kernel_rfl) hc
  go_enter Ybad.func19, Ybad.ntmps19
  go_wp2
  go_ret
  exact ⟨rfl, rfl⟩

theorem isHost_nil (w : World) : Calls Ybad.prog 14 #[.pointer none] w fun e w' => e = .returned (.bool false) ∧ w' = w := by
  go_enter Ybad.func14, Ybad.ntmps14
  go_wp2
  go_ret
  exact ⟨rfl, rfl⟩
theorem isHost_no (b : Nat) (w : World) (hc : w.cell? ⟨b, 1, none⟩ = some (.int .u64 0)) :
    Calls Ybad.prog 14 #[.pointer (some ⟨b, 0, none⟩)] w fun e w' => e = .returned (.bool false) ∧ w' = w := by
  go_enter Ybad.func14, Ybad.ntmps14
  go_wp2_with fail
  refine (load_some b 0 _ hc).mono ?_
  rintro e w' ⟨rfl, rfl⟩
  go_wp2
  go_ret
  exact ⟨rfl, rfl⟩
theorem isHost_yes (b : Nat) (w : World) (hc : w.cell? ⟨b, 1, none⟩ = some (.int .u64 4)) :
    Calls Ybad.prog 14 #[.pointer (some ⟨b, 0, none⟩)] w fun e w' => e = .returned (.bool true) ∧ w' = w := by
  go_enter Ybad.func14, Ybad.ntmps14
  go_wp2_with fail
  refine (load_some b 4 _ hc).mono ?_
  rintro e w' ⟨rfl, rfl⟩
  go_wp2
  go_ret
  exact ⟨rfl, rfl⟩
theorem isClosed_no (b : Nat) (w : World) (hc : w.cell? ⟨b, 1, none⟩ = some (.int .u64 8)) :
    Calls Ybad.prog 18 #[.pointer (some ⟨b, 0, none⟩)] w fun e w' => e = .returned (.bool false) ∧ w' = w := by
  go_enter Ybad.func18, Ybad.ntmps18
  go_wp2_with fail
  refine (load_some b 8 _ hc).mono ?_
  rintro e w' ⟨rfl, rfl⟩
  go_wp2
  go_ret
  exact ⟨rfl, rfl⟩
theorem isClosed_yes (b : Nat) (w : World) (hc : w.cell? ⟨b, 1, none⟩ = some (.int .u64 9)) :
    Calls Ybad.prog 18 #[.pointer (some ⟨b, 0, none⟩)] w fun e w' => e = .returned (.bool true) ∧ w' = w := by
  go_enter Ybad.func18, Ybad.ntmps18
  go_wp2_with fail
  refine (load_some b 9 _ hc).mono ?_
  rintro e w' ⟨rfl, rfl⟩
  go_wp2
  go_ret
  exact ⟨rfl, rfl⟩
theorem parent_some (b : Nat) (v : Value) (w : World) (hc : w.cell? ⟨b, 0, none⟩ = some v) :
    Calls Ybad.prog 20 #[.pointer (some ⟨b, 0, none⟩)] w fun e w' => e = .returned v ∧ w' = w := by
  go_enter Ybad.func20, Ybad.ntmps20
  go_wp2
  go_ret
  exact ⟨rfl, rfl⟩
theorem parts_none (b : Nat) (w : World) (hc : w.cell? ⟨b, 2, none⟩ = some (.pointer none)) :
    Calls Ybad.prog 21 #[.pointer (some ⟨b, 0, none⟩)] w fun e w' => e = .returned (.pointer none) ∧ w' = w := by
  go_enter Ybad.func21, Ybad.ntmps21
  go_wp2
  go_ret
  exact ⟨rfl, rfl⟩
theorem parts_some (b t : Nat) (v : Value) (w : World) (hc : w.cell? ⟨b, 2, none⟩ = some (.pointer (some ⟨t, 0, none⟩))) (ht : w.cell? ⟨t, 2, none⟩ = some v) :
    Calls Ybad.prog 21 #[.pointer (some ⟨b, 0, none⟩)] w fun e w' => e = .returned v ∧ w' = w := by
  go_enter Ybad.func21, Ybad.ntmps21
  go_wp2
  go_ret
  exact ⟨rfl, rfl⟩

/-- from s, n parents up, lies r -/
def Chain (w : World) : Nat → Nat → Nat → Prop
  | 0, s, r => s = r
  | n + 1, s, r => ∃ p, p < s ∧ w.cell? ⟨s, 0, none⟩ = some (.pointer (some ⟨p, 0, none⟩)) ∧ Chain w n p r

/-- a measure for the walk up a chain -/
def blockOf : Value → Nat
  | .pointer (some a) => a.block
  | _ => 0

/-- the environment that the outermost scope r holds, or none -/
def EnvOf (w : World) (r : Nat) (eo : Option Addr) : Prop :=
  w.cell? ⟨r, 0, none⟩ = some (.pointer none) ∧
  ((eo = none ∧ w.cell? ⟨r, 2, none⟩ = some (.pointer none)) ∨
   ∃ t x, w.cell? ⟨r, 2, none⟩ = some (.pointer (some ⟨t, 0, none⟩)) ∧ w.cell? ⟨t, 2, none⟩ = some (.pointer (some ⟨x, 0, none⟩)) ∧ w.cell? ⟨x, 0, none⟩ = some (.pointer eo))

theorem env_nil (w : World) : Calls Ybad.prog 15 #[.pointer none] w fun e w' => e = .returned (.pointer none) ∧ w' = w := by
  go_enter Ybad.func15, Ybad.ntmps15
  go_wp2
  go_ret
  exact ⟨rfl, rfl⟩

set_option maxRecDepth 100000 in
theorem env_some (n s r : Nat) (eo : Option Addr) (w : World) (hch : Chain w n s r) (henv : EnvOf w r eo) :
    Calls Ybad.prog 15 #[.pointer (some ⟨s, 0, none⟩)] w fun e w' => e = .returned (.pointer eo) ∧ w' = w := by
  have HC : Hid (Chain w n s r) := hch
  have HE : Hid (EnvOf w r eo) := henv
  clear hch henv
  go_enter Ybad.func15, Ybad.ntmps15
  go_wp2
  go_loop [0] (fun v => ∃ m c : Nat, v = .pointer (some ⟨c, 0, none⟩) ∧ Chain w m c r) (fun v => blockOf v)
  case atStart => exact ⟨n, s, rfl, HC.out⟩
  case round =>
    obtain ⟨m, c, rfl, hc⟩ := hrel
    cases m with
    | succ m =>
      obtain ⟨p, hp, hcell, hch⟩ := hc
      have HC2 : Hid (Chain w m p r) := hch
      clear hch
      go_wp2_with (go_at_call 20; refine (parent_some c (.pointer (some ⟨p, 0, none⟩)) _ hcell).mono ?_; rintro e w' ⟨rfl, rfl⟩)
      go_round
      case rel => exact ⟨m, p, rfl, HC2.out⟩
      case measure => simp [blockOf]; omega
    | zero =>
      have hcr : c = r := hc
      subst hcr
      obtain ⟨h0, ⟨rfl, h2⟩ | ⟨t, x, h2, h3, h4⟩⟩ := HE.out
      · go_wp2_with (first | (go_at_call 20; refine (parent_some c (.pointer none) _ h0).mono ?_; rintro e w' ⟨rfl, rfl⟩) | (go_at_call 21; refine (parts_none c _ h2).mono ?_; rintro e w' ⟨rfl, rfl⟩))
        go_ret
        exact ⟨rfl, rfl⟩
      · go_wp2_with (first | (go_at_call 20; refine (parent_some c (.pointer none) _ h0).mono ?_; rintro e w' ⟨rfl, rfl⟩) | (go_at_call 21; refine (parts_some c t (.pointer (some ⟨x, 0, none⟩)) _ h2 h3).mono ?_; rintro e w' ⟨rfl, rfl⟩))
        go_ret
        exact ⟨rfl, rfl⟩
end Go.Proofs.YbulkbgykDoor
