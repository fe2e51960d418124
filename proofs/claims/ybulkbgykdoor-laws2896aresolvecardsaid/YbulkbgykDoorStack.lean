/- Contracts of the stack's four methods (SetMaxDepth, room, Depth, MaxDepth), and '==' on one sentinel. -/
import Derived.Test.YbulkbgykDoorRows
import Derived.WalkKit
import Derived.ProofKit
import Derived.RegionTactic
import Derived.ChangeAlike
import Derived.WalkLawsBesides
import Derived.WalkSpells
import Derived.LaidEql
import Derived.Deep.QuietTactic
import Derived.BigQuiet
namespace Go.Proofs.YbulkbgykDoor
open Go.ChangeShapes Go.WideShapes Go.ChangeAt Go.RowKit
set_option linter.unusedVariables false

theorem info106 : (Ybad.prog.info? 106).map (·.comparable) = some true := by kernel_rfl
theorem info126 : (Ybad.prog.info? 126).isSome = true := by kernel_rfl
theorem erreql (a : Addr) (w : World) : (binOp .eql 68 (.iface 106 (.pointer (some a))) (.iface 106 (.pointer (some a)))).run Ybad.prog w = .ok (.bool true) w := by
  obtain ⟨i, hi, hcmp⟩ := Option.map_eq_some_iff.1 info106
  obtain ⟨j, hj⟩ := Option.isSome_iff_exists.1 info126
  exact run_eql_iface_ptr_same w a Ybad.underlying68 Ybad.underlying106 hi hcmp hj
theorem errneq (a : Addr) (w : World) : (binOp .neq 68 (.iface 106 (.pointer (some a))) (.iface 106 (.pointer (some a)))).run Ybad.prog w = .ok (.bool false) w := by
  obtain ⟨i, hi, hcmp⟩ := Option.map_eq_some_iff.1 info106
  obtain ⟨j, hj⟩ := Option.isSome_iff_exists.1 info126
  simp only [binOp]
  simp [Op.equal, Op.maxDepth, run_equalIn_iface_ptr_same w 9998 a Ybad.underlying68 Ybad.underlying106 hi hcmp hj]
theorem nileql (w : World) : (binOp .eql 68 .nilIface .nilIface).run Ybad.prog w = .ok (.bool true) w := by kernel_rfl
theorem nilneq (w : World) : (binOp .neq 68 .nilIface .nilIface).run Ybad.prog w = .ok (.bool false) w := by kernel_rfl

/-! ### the nil stack -/
theorem set_nil (n : Int) (w : World) : Calls Ybad.prog 9 #[.pointer none, .int .i64 n] w fun e w' => e = .returned (.tuple #[]) ∧ w' = w := by
  go_enter Ybad.func9, Ybad.ntmps9
  go_wp2
  exact bodyPost_ret (v := .tuple #[]) (by simp [results, Ybad.results9]) rfl ⟨rfl, rfl⟩
theorem room_nil (v : Value) (w : World) (hc : w.cell? ⟨3, 0, none⟩ = some v) : Calls Ybad.prog 10 #[.pointer none] w fun e w' => e = .returned v ∧ w' = w := by
  go_enter Ybad.func10, Ybad.ntmps10
  go_wp2
  go_ret
  exact ⟨rfl, rfl⟩
theorem depth_nil (w : World) : Calls Ybad.prog 11 #[.pointer none] w fun e w' => e = .returned (.int .i64 0) ∧ w' = w := by
  go_enter Ybad.func11, Ybad.ntmps11
  go_wp2
  go_ret
  exact ⟨rfl, rfl⟩
theorem maxd_nil (w : World) : Calls Ybad.prog 12 #[.pointer none] w fun e w' => e = .returned (.int .i64 0) ∧ w' = w := by
  go_enter Ybad.func12, Ybad.ntmps12
  go_wp2
  go_ret
  exact ⟨rfl, rfl⟩

/-! ### a stack in memory -/
theorem set_pos (b : Nat) (n : Int) (v : Value) (w : World) (h : 0 < n) (hc : w.cell? ⟨b, 4, none⟩ = some v) (hf : w.frozen? ⟨b, 4, none⟩ = false) :
    Calls Ybad.prog 9 #[.pointer (some ⟨b, 0, none⟩), .int .i64 n] w fun e w' => e = .returned (.tuple #[]) ∧ w.setCell ⟨b, 4, none⟩ (.int .i64 n) = w' := by
  go_enter Ybad.func9, Ybad.ntmps9
  go_wp2
  go_end0
  exact ⟨rfl, rfl⟩
theorem set_neg (b : Nat) (n : Int) (v : Value) (w : World) (h : n ≤ 0) (hc : w.cell? ⟨b, 4, none⟩ = some v) (hf : w.frozen? ⟨b, 4, none⟩ = false) :
    Calls Ybad.prog 9 #[.pointer (some ⟨b, 0, none⟩), .int .i64 n] w fun e w' => e = .returned (.tuple #[]) ∧ w.setCell ⟨b, 4, none⟩ (.int .i64 0) = w' := by
  rcases Int.lt_or_eq_of_le h with h | rfl
  · go_enter Ybad.func9, Ybad.ntmps9
    go_wp2
    go_end0
    exact ⟨rfl, rfl⟩
  · go_enter Ybad.func9, Ybad.ntmps9
    go_wp2
    go_end0
    exact ⟨rfl, rfl⟩
theorem depth_some (b n c : Nat) (ao : Option Addr) (w : World) (hn : n ≤ 70000) (hc : w.cell? ⟨b, 2, none⟩ = some (.slice ao n c)) :
    Calls Ybad.prog 11 #[.pointer (some ⟨b, 0, none⟩)] w fun e w' => e = .returned (.int .i64 ((n : Int) + 1)) ∧ w' = w := by
  go_enter Ybad.func11, Ybad.ntmps11
  go_wp2
  go_ret
  exact ⟨rfl, rfl⟩
theorem maxd_pos (b : Nat) (m : Int) (w : World) (hm : 0 < m) (hc : w.cell? ⟨b, 4, none⟩ = some (.int .i64 m)) :
    Calls Ybad.prog 12 #[.pointer (some ⟨b, 0, none⟩)] w fun e w' => e = .returned (.int .i64 m) ∧ w' = w := by
  have h0 : (m == 0) = false := by simp; omega
  go_enter Ybad.func12, Ybad.ntmps12
  go_wp2
  go_ret
  exact ⟨rfl, rfl⟩
theorem maxd_zero (b : Nat) (w : World) (hc : w.cell? ⟨b, 4, none⟩ = some (.int .i64 0)) :
    Calls Ybad.prog 12 #[.pointer (some ⟨b, 0, none⟩)] w fun e w' => e = .returned (.int .i64 10000) ∧ w' = w := by
  go_enter Ybad.func12, Ybad.ntmps12
  go_wp2
  go_ret
  exact ⟨rfl, rfl⟩

/-- What room asks of the memory: the frames, and the maximum depth as it is kept (0 for the default). -/
def Keeps (w : World) (b n : Nat) (mx : Int) : Prop :=
  (∃ ao c, w.cell? ⟨b, 2, none⟩ = some (.slice ao n c)) ∧ ((0 < mx ∧ w.cell? ⟨b, 4, none⟩ = some (.int .i64 mx)) ∨ (mx = 10000 ∧ w.cell? ⟨b, 4, none⟩ = some (.int .i64 0)))
theorem depth_keeps (b n : Nat) (mx : Int) (w : World) (hn : n ≤ 70000) (h : Keeps w b n mx) :
    Calls Ybad.prog 11 #[.pointer (some ⟨b, 0, none⟩)] w fun e w' => e = .returned (.int .i64 ((n : Int) + 1)) ∧ w' = w := by
  obtain ⟨⟨ao, c, hc⟩, _⟩ := h
  exact depth_some b n c ao w hn hc
theorem maxd_keeps (b n : Nat) (mx : Int) (w : World) (h : Keeps w b n mx) :
    Calls Ybad.prog 12 #[.pointer (some ⟨b, 0, none⟩)] w fun e w' => e = .returned (.int .i64 mx) ∧ w' = w := by
  obtain ⟨_, ⟨h0, hc⟩ | ⟨rfl, hc⟩⟩ := h
  · exact maxd_pos b mx w h0 hc
  · exact maxd_zero b w hc
theorem room_full (b n : Nat) (mx : Int) (v : Value) (w : World) (hn : n ≤ 70000) (h : Keeps w b n mx) (hv : w.cell? ⟨4, 0, none⟩ = some v) (hmx : mx ≤ (n : Int) + 1) :
    Calls Ybad.prog 10 #[.pointer (some ⟨b, 0, none⟩)] w fun e w' => e = .returned v ∧ w' = w := by
  go_enter Ybad.func10, Ybad.ntmps10
  go_wp2_with fail
  refine (depth_keeps b n mx _ hn h).mono ?_
  rintro e w' ⟨rfl, rfl⟩
  go_wp2_with fail
  refine (maxd_keeps b n mx _ h).mono ?_
  rintro e w' ⟨rfl, rfl⟩
  go_wp2
  go_ret
  exact ⟨rfl, rfl⟩
theorem room_ok (b n : Nat) (mx : Int) (w : World) (hn : n ≤ 70000) (h : Keeps w b n mx) (hmx : ¬ mx ≤ (n : Int) + 1) :
    Calls Ybad.prog 10 #[.pointer (some ⟨b, 0, none⟩)] w fun e w' => e = .returned .nilIface ∧ w' = w := by
  go_enter Ybad.func10, Ybad.ntmps10
  go_wp2_with fail
  refine (depth_keeps b n mx _ hn h).mono ?_
  rintro e w' ⟨rfl, rfl⟩
  go_wp2_with fail
  refine (maxd_keeps b n mx _ h).mono ?_
  rintro e w' ⟨rfl, rfl⟩
  go_wp2
  go_ret
  exact ⟨rfl, rfl⟩

/-! ### LawS2896CNil -/
theorem cnil_walk (m : Int) (a : Addr) (w : World) (hc : w.cell? ⟨3, 0, none⟩ = some (.iface 106 (.pointer (some a)))) :
    Calls Ybad.prog 4 #[.int .i64 m] w fun e w' => e = .returned (.bool true) ∧ ∃ n, w' = w.drewN n := by
  have he := erreql a
  go_enter Ybad.func4, Ybad.ntmps4
  go_wp2_with fail
  refine (set_nil m _).mono ?_
  rintro e w' ⟨rfl, rfl⟩
  go_wp2_with fail
  go_quiet (first | (go_at_call 10; exact Calls.quiet_of_same (room_nil (.iface 106 (.pointer (some a))) _ (by go_simp))) | (go_at_call 11; exact Calls.quiet_of_same (depth_nil _)) | (go_at_call 12; exact Calls.quiet_of_same (maxd_nil _)))
  go_wp2
  go_ret
  exact ⟨rfl, _, rfl⟩
end Go.Proofs.YbulkbgykDoor
