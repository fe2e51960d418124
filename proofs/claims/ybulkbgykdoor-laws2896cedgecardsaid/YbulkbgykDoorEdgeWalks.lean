/- The walks of LawS2896CEdge. -/
import Derived.Test.YbulkbgykDoorRoomWalks
namespace Go.Proofs.YbulkbgykDoor
open Go.ChangeShapes Go.WideShapes Go.ChangeAt Go.RowKit
set_option linter.unusedVariables false

set_option maxRecDepth 100000 in
set_option maxHeartbeats 1000000 in
theorem cedge_dflt_full (m d n : Nat) (a : Addr) (w : World) (hm : m ≤ 255) (hd : d ≤ 255) (hn : (n : Int) = 9998 + (d : Int) % 3) (h1 : 10000 ≤ 9998 + (d : Int) % 3 + 1) (hg : 4 < w.heap.size) (hc : w.cell? ⟨4, 0, none⟩ = some (.iface 106 (.pointer (some a)))) :
    Calls Ybad.prog 6 #[.int .u8 m, .int .u8 d, .bool true] w fun e w' => e = .returned (.bool true) ∧ Below w.heap.size w w' := by
  have he := erreql a
  have hnn := nileql
  have hmk := fun w => run_make_row' (P := Ybad.prog) 62 27 (.pointer none) 8 Ybad.underlying62 (by kernel_rfl) rfl .i64 .i64 n (by omega) (by omega) w
  rw [hn] at hmk
  have hn7 : n ≤ 70000 := by omega
  have HN : Hid ((n : Int) = 9998 + (d : Int) % 3) := hn
  clear hn
  go_enter Ybad.func6, Ybad.ntmps6
  go_wp2_with fail
  refine (set_neg _ 0 (.int .i64 0) _ (Int.le_refl _) (by go_simp) (by go_simp)).mono ?_
  rintro e w' ⟨rfl, rfl⟩
  go_wp2_with fail
  refine (room_full w.heap.size n 10000 _ _ (by omega) (by exact keeps_zero w n) (by exact sentinel_kept w n 0 _ hg hc) (by have := HN.out; omega)).mono ?_
  rintro e w' ⟨rfl, rfl⟩
  go_wp2
  go_ret
  exact ⟨rfl, stack_grown w n 0⟩

set_option maxRecDepth 100000 in
set_option maxHeartbeats 1000000 in
theorem cedge_dflt_ok (m d n : Nat) (a : Addr) (w : World) (hm : m ≤ 255) (hd : d ≤ 255) (hn : (n : Int) = 9998 + (d : Int) % 3) (h1 : ¬ 10000 ≤ 9998 + (d : Int) % 3 + 1) (hg : 4 < w.heap.size) (hc : w.cell? ⟨4, 0, none⟩ = some (.iface 106 (.pointer (some a)))) :
    Calls Ybad.prog 6 #[.int .u8 m, .int .u8 d, .bool true] w fun e w' => e = .returned (.bool true) ∧ Below w.heap.size w w' := by
  have he := erreql a
  have hnn := nileql
  have hmk := fun w => run_make_row' (P := Ybad.prog) 62 27 (.pointer none) 8 Ybad.underlying62 (by kernel_rfl) rfl .i64 .i64 n (by omega) (by omega) w
  rw [hn] at hmk
  have hn7 : n ≤ 70000 := by omega
  have HN : Hid ((n : Int) = 9998 + (d : Int) % 3) := hn
  clear hn
  go_enter Ybad.func6, Ybad.ntmps6
  go_wp2_with fail
  refine (set_neg _ 0 (.int .i64 0) _ (Int.le_refl _) (by go_simp) (by go_simp)).mono ?_
  rintro e w' ⟨rfl, rfl⟩
  go_wp2_with fail
  refine (room_ok w.heap.size n 10000 _ (by omega) (by exact keeps_zero w n) (by have := HN.out; omega)).mono ?_
  rintro e w' ⟨rfl, rfl⟩
  go_wp2
  go_ret
  exact ⟨rfl, stack_grown w n 0⟩

set_option maxRecDepth 100000 in
set_option maxHeartbeats 1000000 in
theorem cedge_set_full (m d n : Nat) (a : Addr) (w : World) (hm : m ≤ 255) (hd : d ≤ 255) (hn : (n : Int) = (m : Int) % 50 + 1 - 2 + (d : Int) % 3) (h1 : (m : Int) % 50 + 1 ≤ (m : Int) % 50 + 1 - 2 + (d : Int) % 3 + 1) (hg : 4 < w.heap.size) (hc : w.cell? ⟨4, 0, none⟩ = some (.iface 106 (.pointer (some a)))) :
    Calls Ybad.prog 6 #[.int .u8 m, .int .u8 d, .bool false] w fun e w' => e = .returned (.bool true) ∧ Below w.heap.size w w' := by
  have he := erreql a
  have hnn := nileql
  have hmk := fun w => run_make_row' (P := Ybad.prog) 62 27 (.pointer none) 8 Ybad.underlying62 (by kernel_rfl) rfl .i64 .i64 n (by omega) (by omega) w
  rw [hn] at hmk
  have hn7 : n ≤ 70000 := by omega
  have hge : 0 ≤ (m : Int) % 50 + 1 - 2 + (d : Int) % 3 := by omega
  have HN : Hid ((n : Int) = (m : Int) % 50 + 1 - 2 + (d : Int) % 3) := hn
  clear hn
  go_enter Ybad.func6, Ybad.ntmps6
  go_wp2_with fail
  refine (set_pos _ ((m : Int) % 50 + 1) (.int .i64 0) _ (by omega) (by go_simp) (by go_simp)).mono ?_
  rintro e w' ⟨rfl, rfl⟩
  go_wp2_with fail
  refine (room_full w.heap.size n ((m : Int) % 50 + 1) _ _ (by omega) (by exact keeps_pos w n ((m : Int) % 50 + 1) (by omega)) (by exact sentinel_kept w n ((m : Int) % 50 + 1) _ hg hc) (by have := HN.out; omega)).mono ?_
  rintro e w' ⟨rfl, rfl⟩
  go_wp2
  go_ret
  exact ⟨rfl, stack_grown w n ((m : Int) % 50 + 1)⟩

set_option maxRecDepth 100000 in
set_option maxHeartbeats 1000000 in
theorem cedge_set_ok (m d n : Nat) (a : Addr) (w : World) (hm : m ≤ 255) (hd : d ≤ 255) (hn : (n : Int) = (m : Int) % 50 + 1 - 2 + (d : Int) % 3) (h1 : ¬ (m : Int) % 50 + 1 ≤ (m : Int) % 50 + 1 - 2 + (d : Int) % 3 + 1) (hg : 4 < w.heap.size) (hc : w.cell? ⟨4, 0, none⟩ = some (.iface 106 (.pointer (some a)))) :
    Calls Ybad.prog 6 #[.int .u8 m, .int .u8 d, .bool false] w fun e w' => e = .returned (.bool true) ∧ Below w.heap.size w w' := by
  have he := erreql a
  have hnn := nileql
  have hmk := fun w => run_make_row' (P := Ybad.prog) 62 27 (.pointer none) 8 Ybad.underlying62 (by kernel_rfl) rfl .i64 .i64 n (by omega) (by omega) w
  rw [hn] at hmk
  have hn7 : n ≤ 70000 := by omega
  have hge : 0 ≤ (m : Int) % 50 + 1 - 2 + (d : Int) % 3 := by omega
  have HN : Hid ((n : Int) = (m : Int) % 50 + 1 - 2 + (d : Int) % 3) := hn
  clear hn
  go_enter Ybad.func6, Ybad.ntmps6
  go_wp2_with fail
  refine (set_pos _ ((m : Int) % 50 + 1) (.int .i64 0) _ (by omega) (by go_simp) (by go_simp)).mono ?_
  rintro e w' ⟨rfl, rfl⟩
  go_wp2_with fail
  refine (room_ok w.heap.size n ((m : Int) % 50 + 1) _ (by omega) (by exact keeps_pos w n ((m : Int) % 50 + 1) (by omega)) (by have := HN.out; omega)).mono ?_
  rintro e w' ⟨rfl, rfl⟩
  go_wp2
  go_ret
  exact ⟨rfl, stack_grown w n ((m : Int) % 50 + 1)⟩

set_option maxRecDepth 100000 in
set_option maxHeartbeats 1000000 in
theorem cedge_neg (m d n : Nat) (a : Addr) (w : World) (hm : m ≤ 255) (hd : d ≤ 255) (hn0 : n = 0) (h0 : (m : Int) % 50 + 1 - 2 + (d : Int) % 3 < 0) (hg : 4 < w.heap.size) (hc : w.cell? ⟨4, 0, none⟩ = some (.iface 106 (.pointer (some a)))) :
    Calls Ybad.prog 6 #[.int .u8 m, .int .u8 d, .bool false] w fun e w' => e = .returned (.bool true) ∧ Below w.heap.size w w' := by
  have he := erreql a
  have hnn := nileql
  subst hn0
  have hmk : ∀ w : World, (Instr.makeSlice 62 (.int .i64 0) (.int .i64 0)).run Ybad.prog w = .ok (.slice (some ⟨w.heap.size, 0, none⟩) 0 0) (w.alloc (.cells (madeCells #[.pointer none] 0) 27)) := fun w => run_make_row' (P := Ybad.prog) 62 27 (.pointer none) 8 Ybad.underlying62 (by kernel_rfl) rfl .i64 .i64 0 (by omega) (by omega) w
  have h1 : (m : Int) % 50 + 1 ≤ 0 + 1 := by omega
  have HN : Hid True := trivial
  go_enter Ybad.func6, Ybad.ntmps6
  go_wp2_with fail
  refine (set_pos _ ((m : Int) % 50 + 1) (.int .i64 0) _ (by omega) (by go_simp) (by go_simp)).mono ?_
  rintro e w' ⟨rfl, rfl⟩
  go_wp2_with fail
  refine (room_full w.heap.size 0 ((m : Int) % 50 + 1) _ _ (by omega) (by exact keeps_pos w 0 ((m : Int) % 50 + 1) (by omega)) (by exact sentinel_kept w 0 ((m : Int) % 50 + 1) _ hg hc) (by have := HN.out; omega)).mono ?_
  rintro e w' ⟨rfl, rfl⟩
  go_wp2
  go_ret
  exact ⟨rfl, stack_grown w 0 ((m : Int) % 50 + 1)⟩

theorem cedge_walk (m d : Nat) (f : Bool) (a : Addr) (w : World) (hm : m ≤ 255) (hd : d ≤ 255) (hg : 4 < w.heap.size) (hc : w.cell? ⟨4, 0, none⟩ = some (.iface 106 (.pointer (some a)))) :
    Calls Ybad.prog 6 #[.int .u8 m, .int .u8 d, .bool f] w fun e w' => e = .returned (.bool true) ∧ Below w.heap.size w w' := by
  cases f
  · by_cases h0 : (m : Int) % 50 + 1 - 2 + (d : Int) % 3 < 0
    · exact cedge_neg m d 0 a w hm hd rfl h0 hg hc
    · obtain ⟨n, hn⟩ := Int.eq_ofNat_of_zero_le (a := (m : Int) % 50 + 1 - 2 + (d : Int) % 3) (by omega)
      by_cases h1 : (m : Int) % 50 + 1 ≤ (m : Int) % 50 + 1 - 2 + (d : Int) % 3 + 1
      · exact cedge_set_full m d n a w hm hd hn.symm h1 hg hc
      · exact cedge_set_ok m d n a w hm hd hn.symm h1 hg hc
  · obtain ⟨n, hn⟩ := Int.eq_ofNat_of_zero_le (a := 9998 + (d : Int) % 3) (by omega)
    by_cases h1 : 10000 ≤ 9998 + (d : Int) % 3 + 1
    · exact cedge_dflt_full m d n a w hm hd hn.symm h1 hg hc
    · exact cedge_dflt_ok m d n a w hm hd hn.symm h1 hg hc
end Go.Proofs.YbulkbgykDoor
