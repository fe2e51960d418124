/- The contracts of maxExponentField, Bias and of number (its one-word way). -/
import Derived.Test.YbulkbhbqBits
import Derived.Deep.RegionHeld3
import Derived.RegionTactic

namespace Go.Proofs.Ybulkbhbq
open Go.ChangeShapes Go.WideShapes Go.ChangeAt Go.RowKit
open Plain
set_option linter.unusedVariables false

theorem mx_raw (F eb : Nat) (w : World) (hc : w.cell? ⟨F, 2, none⟩ = some (.int .i64 eb)) (h : eb ≤ 11) (h1 : 1 ≤ eb) :
    Calls Yba.prog 10 #[.pointer (some ⟨F, 0, none⟩)] w fun e w' => e = .returned (.int .i64 (wrap64 (wrap64 (2 ^ eb) - 1))) ∧ w' = w := by
  go_enter Yba.func10, Yba.ntmps10
  go_wp2
  go_ret
  exact ⟨rfl, rfl⟩
theorem bias_raw (F eb : Nat) (w : World) (hc : w.cell? ⟨F, 2, none⟩ = some (.int .i64 eb)) (h : eb ≤ 11) (h1 : 1 ≤ eb) :
    Calls Yba.prog 11 #[.pointer (some ⟨F, 0, none⟩)] w fun e w' => e = .returned (.int .i64 (wrap64 (wrap64 (2 ^ (eb - 1)) - 1))) ∧ w' = w := by
  go_enter Yba.func11, Yba.ntmps11
  go_wp2
  go_ret
  exact ⟨rfl, rfl⟩
theorem pow_int (k m : Nat) (h : k ≤ 11) (hm : m + 1 = 2 ^ k) : wrap64 (wrap64 (2 ^ k) - 1) = (m : Int) := by
  have h1 : (2 : Nat) ^ k ≤ 2 ^ 11 := Nat.pow_le_pow_right (by decide) h
  have h2 : ((2 : Int) ^ k) = ((m + 1 : Nat) : Int) := by rw [hm]; simp
  have h3 : (2 : Nat) ^ 11 = 2048 := by decide
  rw [h2]
  have h4 : wrap64 ((m + 1 : Nat) : Int) = ((m + 1 : Nat) : Int) := by unfold wrap64; omega
  rw [h4]
  unfold wrap64
  omega
theorem mx_calls (F eb M : Nat) (h : eb ≤ 11) (h1 : 1 ≤ eb) (hM : M + 1 = 2 ^ eb) (w : World) (hc : w.cell? ⟨F, 2, none⟩ = some (.int .i64 eb)) :
    Calls Yba.prog 10 #[.pointer (some ⟨F, 0, none⟩)] w fun e w' => e = .returned (.int .i64 M) ∧ w' = w := by
  refine (mx_raw F eb w hc h h1).mono fun e w' ⟨he, hw⟩ => ⟨?_, hw⟩
  rw [he, pow_int eb M h hM]
theorem bias_calls (F eb B : Nat) (h : eb ≤ 11) (h1 : 1 ≤ eb) (hB : B + 1 = 2 ^ (eb - 1)) (w : World) (hc : w.cell? ⟨F, 2, none⟩ = some (.int .i64 eb)) :
    Calls Yba.prog 11 #[.pointer (some ⟨F, 0, none⟩)] w fun e w' => e = .returned (.int .i64 B) ∧ w' = w := by
  refine (bias_raw F eb w hc h h1).mono fun e w' ⟨he, hw⟩ => ⟨?_, hw⟩
  rw [he, pow_int (eb - 1) B (by omega) hB]

set_option maxHeartbeats 2000000 in
theorem num_zero (F eb n pat top M ef Pn K fr Bb sg wm : Nat) (w : World) (c2 : w.cell? ⟨F, 2, none⟩ = some (.int .i64 eb)) (c3 : w.cell? ⟨F, 3, none⟩ = some (.int .i64 ((n : Int) + 1))) (c4 : w.cell? ⟨F, 4, none⟩ = some (.bool false))
    (h : eb ≤ 11) (h1 : 1 ≤ eb) (hn : n ≤ 52) (hn1 : 1 ≤ n) (hM : M + 1 = 2 ^ eb) (hB : Bb + 1 = 2 ^ (eb - 1)) (hef : (ef : Int) ≤ 2047) (hBb : (Bb : Int) ≤ 1023)
    (r1 : (pat : Int) / 2 ^ n = (top : Int)) (htop : (top : Int) ≤ 4095) (r2 : bits .and .i64 (top : Int) (M : Int) = (ef : Int)) (q0 : IntKind.u64.wrap (2 ^ n) = (Pn : Int)) (q3 : IntKind.u64.wrap ((Pn : Int) - 1) = (K : Int)) (r3 : bits .and .u64 (pat : Int) (K : Int) = (fr : Int))
    (r4 : (top : Int) / 2 ^ eb = (sg : Int)) (hz : ((ef : Int) != 0) = false) (hz1 : (ef : Int) < 1) :
    Calls Yba.prog 6 #[.agg #[.pointer (some ⟨F, 0, none⟩), .int .u64 0, .int .u64 pat]] w fun e w' => e = .returned (.tuple #[.bool ((sg : Int) != 0), .agg #[.int .u64 0, .int .u64 fr], .int .i64 (1 - (Bb : Int) - (n : Int)), .bool ((ef : Int) != (M : Int))]) ∧ Below w.heap.size w w' := by
  have hF := World.block_lt_of_cell? _ _ c2
  simp only at hF
  have HM : Hid (M + 1 = 2 ^ eb ∧ Bb + 1 = 2 ^ (eb - 1)) := ⟨hM, hB⟩
  have i1 : (eb : Int) ≤ 11 := by omega
  have i2 : 1 ≤ (eb : Int) := by omega
  have i3 : (n : Int) ≤ 52 := by omega
  have i4 : 1 ≤ (n : Int) := by omega
  have i5 : (n : Int) + (eb : Int) < 64 := by omega
  have v1 : IntKind.i64.wrap (n : Int) = (n : Int) := by rw [IntKind.wrap_i64]; omega
  have v2 : IntKind.i64.wrap (1 - (Bb : Int)) = 1 - (Bb : Int) := by rw [IntKind.wrap_i64]; omega
  have v3 : IntKind.i64.wrap (1 - (Bb : Int) - (n : Int)) = 1 - (Bb : Int) - (n : Int) := by rw [IntKind.wrap_i64]; omega
  have k2 : ∀ o1 o2, ((w.alloc o1).alloc o2).cell? ⟨F, 2, none⟩ = some (.int .i64 eb) := fun o1 o2 => by rw [World.cell?_alloc_past _ _ _ (by simp; omega), World.cell?_alloc_past _ _ _ hF]; exact c2
  clear hM hB
  go_enter Yba.func6, Yba.ntmps6
  go_wp2_with fail
  refine (mx_calls F eb M h h1 HM.out.1 _ (by exact k2 _ _)).mono ?_
  rintro e w1 ⟨rfl, rfl⟩
  go_wp2_with fail
  refine (mx_calls F eb M h h1 HM.out.1 _ (by exact k2 _ _)).mono ?_
  rintro e w1 ⟨rfl, rfl⟩
  go_wp2_with fail
  go_region_held3 (fun w' => w'.cell? ⟨F, 2, none⟩ = some (.int .i64 eb) ∧ w'.cell? ⟨w.heap.size + 1, 0, none⟩ = some (.int .u64 0) ∧ w'.cell? ⟨w.heap.size + 1, 1, none⟩ = some (.int .u64 fr)) (go_simp)
    (first
      | (go_at_call 11; refine (bias_calls F eb Bb h h1 HM.out.2 _ (by exact k2 _ _)).mono ?_; rintro e w1 ⟨rfl, rfl⟩))
  all_goals
    go_wp2
    refine bodyPost_ret (v := .tuple #[.bool ((sg : Int) != 0), .agg #[.int .u64 0, .int .u64 fr], .int .i64 (1 - (Bb : Int) - (n : Int)), .bool ((ef : Int) != (M : Int))]) (by simp [results, Yba.results6, go_sem]) rfl ⟨rfl, ?_⟩
    repeat (first | exact Below.refl _ _ | refine Below.alloc ?_ (by first | (simp; done) | (simp; omega)) _ | refine Below.setCell ?_ (by first | (simp; done) | (simp; omega)) _ | refine below_drewN ?_ _ | refine Below.drew ?_)

set_option maxHeartbeats 2000000 in
theorem num_pos (F eb n pat top M ef Pn K fr Bb sg wm : Nat) (w : World) (c2 : w.cell? ⟨F, 2, none⟩ = some (.int .i64 eb)) (c3 : w.cell? ⟨F, 3, none⟩ = some (.int .i64 ((n : Int) + 1))) (c4 : w.cell? ⟨F, 4, none⟩ = some (.bool false))
    (h : eb ≤ 11) (h1 : 1 ≤ eb) (hn : n ≤ 52) (hn1 : 1 ≤ n) (hM : M + 1 = 2 ^ eb) (hB : Bb + 1 = 2 ^ (eb - 1)) (hef : (ef : Int) ≤ 2047) (hBb : (Bb : Int) ≤ 1023)
    (r1 : (pat : Int) / 2 ^ n = (top : Int)) (htop : (top : Int) ≤ 4095) (r2 : bits .and .i64 (top : Int) (M : Int) = (ef : Int)) (q0 : IntKind.u64.wrap (2 ^ n) = (Pn : Int)) (q3 : IntKind.u64.wrap ((Pn : Int) - 1) = (K : Int)) (r3 : bits .and .u64 (pat : Int) (K : Int) = (fr : Int))
    (r4 : (top : Int) / 2 ^ eb = (sg : Int)) (r5 : bits .or .u64 (fr : Int) (Pn : Int) = (wm : Int)) (hz : ((ef : Int) != 0) = true) (hz1 : 1 ≤ (ef : Int)) :
    Calls Yba.prog 6 #[.agg #[.pointer (some ⟨F, 0, none⟩), .int .u64 0, .int .u64 pat]] w fun e w' => e = .returned (.tuple #[.bool ((sg : Int) != 0), .agg #[.int .u64 0, .int .u64 wm], .int .i64 ((ef : Int) - (Bb : Int) - (n : Int)), .bool ((ef : Int) != (M : Int))]) ∧ Below w.heap.size w w' := by
  have hF := World.block_lt_of_cell? _ _ c2
  simp only at hF
  have HM : Hid (M + 1 = 2 ^ eb ∧ Bb + 1 = 2 ^ (eb - 1)) := ⟨hM, hB⟩
  have i1 : (eb : Int) ≤ 11 := by omega
  have i2 : 1 ≤ (eb : Int) := by omega
  have i3 : (n : Int) ≤ 52 := by omega
  have i4 : 1 ≤ (n : Int) := by omega
  have i5 : (n : Int) + (eb : Int) < 64 := by omega
  have v1 : IntKind.i64.wrap (n : Int) = (n : Int) := by rw [IntKind.wrap_i64]; omega
  have v2 : IntKind.i64.wrap ((ef : Int) - (Bb : Int)) = (ef : Int) - (Bb : Int) := by rw [IntKind.wrap_i64]; omega
  have v3 : IntKind.i64.wrap ((ef : Int) - (Bb : Int) - (n : Int)) = (ef : Int) - (Bb : Int) - (n : Int) := by rw [IntKind.wrap_i64]; omega
  have k2 : ∀ o1 o2, ((w.alloc o1).alloc o2).cell? ⟨F, 2, none⟩ = some (.int .i64 eb) := fun o1 o2 => by rw [World.cell?_alloc_past _ _ _ (by simp; omega), World.cell?_alloc_past _ _ _ hF]; exact c2
  clear hM hB
  go_enter Yba.func6, Yba.ntmps6
  go_wp2_with fail
  refine (mx_calls F eb M h h1 HM.out.1 _ (by exact k2 _ _)).mono ?_
  rintro e w1 ⟨rfl, rfl⟩
  go_wp2_with fail
  refine (mx_calls F eb M h h1 HM.out.1 _ (by exact k2 _ _)).mono ?_
  rintro e w1 ⟨rfl, rfl⟩
  go_wp2_with fail
  go_region_held3 (fun w' => w'.cell? ⟨F, 2, none⟩ = some (.int .i64 eb) ∧ w'.cell? ⟨w.heap.size + 1, 0, none⟩ = some (.int .u64 0) ∧ w'.cell? ⟨w.heap.size + 1, 1, none⟩ = some (.int .u64 wm)) (go_simp)
    (first
      | (go_at_call 11; refine (bias_calls F eb Bb h h1 HM.out.2 _ (by exact k2 _ _)).mono ?_; rintro e w1 ⟨rfl, rfl⟩))
  all_goals
    go_wp2
    refine bodyPost_ret (v := .tuple #[.bool ((sg : Int) != 0), .agg #[.int .u64 0, .int .u64 wm], .int .i64 ((ef : Int) - (Bb : Int) - (n : Int)), .bool ((ef : Int) != (M : Int))]) (by simp [results, Yba.results6, go_sem]) rfl ⟨rfl, ?_⟩
    repeat (first | exact Below.refl _ _ | refine Below.alloc ?_ (by first | (simp; done) | (simp; omega)) _ | refine Below.setCell ?_ (by first | (simp; done) | (simp; omega)) _ | refine below_drewN ?_ _ | refine Below.drew ?_)
end Go.Proofs.Ybulkbhbq
