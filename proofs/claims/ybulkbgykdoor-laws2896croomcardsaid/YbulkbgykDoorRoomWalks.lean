/- The walks of LawS2896CRoom. -/
import Derived.Test.YbulkbgykDoorStack
import Derived.Deep.OwnRows
namespace Go.Proofs.YbulkbgykDoor
open Go.ChangeShapes Go.WideShapes Go.ChangeAt Go.RowKit
set_option linter.unusedVariables false

/-- the stack as the two laws lay it: n frames, md kept as its maximum depth -/
abbrev stackWorld (w : World) (n : Nat) (md : Int) : World :=
  (w.alloc (.cells #[.pointer none, .pointer none, .slice (some ⟨w.heap.size + 1, 0, none⟩) n n, .int .i64 0, .int .i64 md, .int .u8 0] 82)).alloc (.cells (madeCells #[.pointer none] n) 27)
theorem keeps_pos (w : World) (n : Nat) (m : Int) (h : 0 < m) : Keeps (stackWorld w n m) w.heap.size n m :=
  ⟨⟨some ⟨w.heap.size + 1, 0, none⟩, n, by go_simp⟩, .inl ⟨h, by go_simp⟩⟩
theorem keeps_zero (w : World) (n : Nat) : Keeps (stackWorld w n 0) w.heap.size n 10000 :=
  ⟨⟨some ⟨w.heap.size + 1, 0, none⟩, n, by go_simp⟩, .inr ⟨rfl, by go_simp⟩⟩
theorem sentinel_kept (w : World) (n : Nat) (md : Int) (v : Value) (hg : 4 < w.heap.size) (hc : w.cell? ⟨4, 0, none⟩ = some v) : (stackWorld w n md).cell? ⟨4, 0, none⟩ = some v := by
  rw [World.cell?_alloc_past _ _ _ (by simp; omega), World.cell?_alloc_past _ _ _ hg]
  exact hc
theorem stack_grown (w : World) (n : Nat) (md : Int) : Below w.heap.size w (stackWorld w n md) :=
  ((Below.refl _ _).alloc (Nat.le_refl _) _).alloc (by simp) _

/-! ### LawS2896CRoom -/
set_option maxRecDepth 100000 in
theorem croom_many (m : Int) (n : Nat) (w : World) (hn : 20000 < n) (hu : n ≤ 65535) :
    Calls Ybad.prog 5 #[.int .i64 m, .int .u16 n] w fun e w' => e = .returned (.bool true) ∧ Below w.heap.size w w' := by
  have h1 : (20000 : Int) < (n : Int) := by omega
  go_enter Ybad.func5, Ybad.ntmps5
  go_wp2
  go_ret
  exact ⟨rfl, Below.refl _ _⟩

set_option maxRecDepth 100000 in
set_option maxHeartbeats 1000000 in
theorem croom_pos (m : Int) (n : Nat) (a : Addr) (w : World) (h0 : 0 < m) (hm : m ≤ 9223372036854775807) (hn : n ≤ 20000) (hg : 4 < w.heap.size) (hc : w.cell? ⟨4, 0, none⟩ = some (.iface 106 (.pointer (some a)))) :
    Calls Ybad.prog 5 #[.int .i64 m, .int .u16 n] w fun e w' => e = .returned (.bool true) ∧ Below w.heap.size w w' := by
  have he := errneq a
  have hnn := nilneq
  have hmk := fun w => run_make_row' (P := Ybad.prog) 62 27 (.pointer none) 8 Ybad.underlying62 (by kernel_rfl) rfl .i64 .i64 n (by omega) (by omega) w
  by_cases hmx : m ≤ (n : Int) + 1
  · go_enter Ybad.func5, Ybad.ntmps5
    go_wp2_with fail
    refine (set_pos _ m (.int .i64 0) _ h0 (by go_simp) (by go_simp)).mono ?_
    rintro e w' ⟨rfl, rfl⟩
    go_wp2_with fail
    refine (room_full w.heap.size n m _ _ (by omega) (by exact keeps_pos w n m h0) (by exact sentinel_kept w n m _ hg hc) hmx).mono ?_
    rintro e w' ⟨rfl, rfl⟩
    go_wp2_with fail
    refine (maxd_keeps w.heap.size n m _ (by exact keeps_pos w n m h0)).mono ?_
    rintro e w' ⟨rfl, rfl⟩
    go_wp2_with fail
    refine (depth_keeps w.heap.size n m _ (by omega) (by exact keeps_pos w n m h0)).mono ?_
    rintro e w' ⟨rfl, rfl⟩
    go_wp2
    go_ret
    exact ⟨rfl, stack_grown w n m⟩
  · go_enter Ybad.func5, Ybad.ntmps5
    go_wp2_with fail
    refine (set_pos _ m (.int .i64 0) _ h0 (by go_simp) (by go_simp)).mono ?_
    rintro e w' ⟨rfl, rfl⟩
    go_wp2_with fail
    refine (room_ok w.heap.size n m _ (by omega) (by exact keeps_pos w n m h0) (by omega)).mono ?_
    rintro e w' ⟨rfl, rfl⟩
    go_wp2_with fail
    refine (maxd_keeps w.heap.size n m _ (by exact keeps_pos w n m h0)).mono ?_
    rintro e w' ⟨rfl, rfl⟩
    go_wp2_with fail
    refine (depth_keeps w.heap.size n m _ (by omega) (by exact keeps_pos w n m h0)).mono ?_
    rintro e w' ⟨rfl, rfl⟩
    go_wp2
    go_ret
    exact ⟨rfl, stack_grown w n m⟩

set_option maxRecDepth 100000 in
set_option maxHeartbeats 1000000 in
theorem croom_neg (m : Int) (n : Nat) (a : Addr) (w : World) (h0 : m ≤ 0) (hn : n ≤ 20000) (hg : 4 < w.heap.size) (hc : w.cell? ⟨4, 0, none⟩ = some (.iface 106 (.pointer (some a)))) :
    Calls Ybad.prog 5 #[.int .i64 m, .int .u16 n] w fun e w' => e = .returned (.bool true) ∧ Below w.heap.size w w' := by
  have he := errneq a
  have hnn := nilneq
  have hmk := fun w => run_make_row' (P := Ybad.prog) 62 27 (.pointer none) 8 Ybad.underlying62 (by kernel_rfl) rfl .i64 .i64 n (by omega) (by omega) w
  by_cases hmx : 10000 ≤ (n : Int) + 1
  · go_enter Ybad.func5, Ybad.ntmps5
    go_wp2_with fail
    refine (set_neg _ m (.int .i64 0) _ h0 (by go_simp) (by go_simp)).mono ?_
    rintro e w' ⟨rfl, rfl⟩
    go_wp2_with fail
    refine (room_full w.heap.size n 10000 _ _ (by omega) (by exact keeps_zero w n) (by exact sentinel_kept w n 0 _ hg hc) hmx).mono ?_
    rintro e w' ⟨rfl, rfl⟩
    go_wp2_with fail
    refine (maxd_keeps w.heap.size n 10000 _ (by exact keeps_zero w n)).mono ?_
    rintro e w' ⟨rfl, rfl⟩
    go_wp2_with fail
    refine (depth_keeps w.heap.size n 10000 _ (by omega) (by exact keeps_zero w n)).mono ?_
    rintro e w' ⟨rfl, rfl⟩
    go_wp2
    go_ret
    exact ⟨rfl, stack_grown w n 0⟩
  · go_enter Ybad.func5, Ybad.ntmps5
    go_wp2_with fail
    refine (set_neg _ m (.int .i64 0) _ h0 (by go_simp) (by go_simp)).mono ?_
    rintro e w' ⟨rfl, rfl⟩
    go_wp2_with fail
    refine (room_ok w.heap.size n 10000 _ (by omega) (by exact keeps_zero w n) (by omega)).mono ?_
    rintro e w' ⟨rfl, rfl⟩
    go_wp2_with fail
    refine (maxd_keeps w.heap.size n 10000 _ (by exact keeps_zero w n)).mono ?_
    rintro e w' ⟨rfl, rfl⟩
    go_wp2_with fail
    refine (depth_keeps w.heap.size n 10000 _ (by omega) (by exact keeps_zero w n)).mono ?_
    rintro e w' ⟨rfl, rfl⟩
    go_wp2
    go_ret
    exact ⟨rfl, stack_grown w n 0⟩

theorem croom_walk (m : Int) (n : Nat) (a : Addr) (w : World) (hm : m ≤ 9223372036854775807) (hu : n ≤ 65535) (hg : 4 < w.heap.size) (hc : w.cell? ⟨4, 0, none⟩ = some (.iface 106 (.pointer (some a)))) :
    Calls Ybad.prog 5 #[.int .i64 m, .int .u16 n] w fun e w' => e = .returned (.bool true) ∧ Below w.heap.size w w' := by
  by_cases hn : n ≤ 20000
  · by_cases h0 : 0 < m
    · exact croom_pos m n a w h0 hm hn hg hc
    · exact croom_neg m n a w (by omega) hn hg hc
  · exact croom_many m n w (by omega) hu

end Go.Proofs.YbulkbgykDoor
