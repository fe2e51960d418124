/- The walk of LawS2902BNarrow. -/
import Derived.Test.YbulkbhbqNum
import Derived.Test.YbulkbhbqPlainN
namespace Go.Proofs.Ybulkbhbq
open Go.ChangeShapes Go.WideShapes Go.ChangeAt Go.RowKit
open Plain
set_option linter.unusedVariables false

/-- one of the four formats -/
abbrev Picks (sel eb n : Nat) : Prop := ∀ w, Calls Yba.prog 5 #[.int .u8 sel] w fun e w' => e = .returned (.tuple #[.int .i64 eb, .int .i64 ((n : Int) + 1)]) ∧ w' = w

theorem picks_0 (sel : Nat) (h : sel ≤ 255) (hs : (sel : Int) % 4 = 0) : Picks sel 5 10 := by
  intro w
  go_enter Yba.func5, Yba.ntmps5
  go_wp2
  go_ret2
  exact ⟨rfl, rfl⟩

theorem picks_1 (sel : Nat) (h : sel ≤ 255) (hs : (sel : Int) % 4 = 1) : Picks sel 8 7 := by
  intro w
  go_enter Yba.func5, Yba.ntmps5
  go_wp2
  go_ret2
  exact ⟨rfl, rfl⟩

theorem picks_2 (sel : Nat) (h : sel ≤ 255) (hs : (sel : Int) % 4 = 2) : Picks sel 8 23 := by
  intro w
  go_enter Yba.func5, Yba.ntmps5
  go_wp2
  go_ret2
  exact ⟨rfl, rfl⟩

theorem picks_3 (sel : Nat) (h : sel ≤ 255) (hs : (sel : Int) % 4 = 3) : Picks sel 11 52 := by
  intro w
  go_enter Yba.func5, Yba.ntmps5
  go_wp2
  go_ret2
  exact ⟨rfl, rfl⟩

set_option maxRecDepth 100000 in
set_option maxHeartbeats 2000000 in
theorem nar_not_zero (sel eb n ee frac M ef Pn K fr s0 p0 t pat top Bb wm : Nat) (w : World) (hee : ee ≤ 65535) (hfr : frac < W64) (h : eb ≤ 11) (h1 : 1 ≤ eb) (hn : n ≤ 52) (hn1 : 1 ≤ n) (hsel : Picks sel eb n)
    (hM : M + 1 = 2 ^ eb) (hB : Bb + 1 = 2 ^ (eb - 1)) (hef : (ef : Int) ≤ 2047) (hBb : (Bb : Int) ≤ 1023) (htop : (top : Int) ≤ 4095)
    (q1 : IntKind.u64.wrap (IntKind.u64.wrap (2 ^ eb) - 1) = (M : Int)) (q2 : bits .and .u64 (ee : Int) (M : Int) = (ef : Int)) (q0 : IntKind.u64.wrap (2 ^ n) = (Pn : Int)) (q3 : IntKind.u64.wrap ((Pn : Int) - 1) = (K : Int)) (q4 : bits .and .u64 (frac : Int) (K : Int) = (fr : Int))
    (q5 : IntKind.u64.wrap ((ef : Int) * 2 ^ n) = (s0 : Int)) (q6 : bits .or .u64 (s0 : Int) (fr : Int) = (p0 : Int)) 
    (r1 : (p0 : Int) / 2 ^ n = (top : Int)) (r2 : bits .and .i64 (top : Int) (M : Int) = (ef : Int)) (r3 : bits .and .u64 (p0 : Int) (K : Int) = (fr : Int)) (r4 : (top : Int) / 2 ^ eb = ((0 : Nat) : Int)) (hz : ((ef : Int) != 0) = false) (hz1 : (ef : Int) < 1) :
    Calls Yba.prog 3 #[.int .u8 sel, .bool false, .int .u16 ee, .int .u64 frac] w fun e w' => e = .returned (.bool true) ∧ Below w.heap.size w w' := by
  have HS : Hid (Picks sel eb n) := hsel
  have HM : Hid (M + 1 = 2 ^ eb ∧ Bb + 1 = 2 ^ (eb - 1) ∧ (p0 : Int) / 2 ^ n = (top : Int) ∧ bits .and .i64 (top : Int) (M : Int) = (ef : Int) ∧ bits .and .u64 (p0 : Int) (K : Int) = (fr : Int) ∧ (top : Int) / 2 ^ eb = ((0 : Nat) : Int)) := ⟨hM, hB, r1, r2, r3, r4⟩
  have qb : ∀ k : Nat, k = eb - 1 → wrap64 (wrap64 (2 ^ k) - 1) = (Bb : Int) := fun k hk => by rw [hk]; exact pow_int (eb - 1) Bb (by omega) hB
  clear hsel hM hB r1 r2 r3 r4
  have i1 : (eb : Int) ≤ 11 := by omega
  have i2 : (n : Int) ≤ 52 := by omega
  have i3 : 1 ≤ (eb : Int) := by omega
  have i4 : 1 ≤ (n : Int) := by omega
  go_enter Yba.func3, Yba.ntmps3
  go_wp2_with fail
  refine (HS.out _).mono ?_
  rintro e w0 ⟨rfl, hw0⟩
  subst hw0
  go_wp2_with fail
  refine (num_zero w0.heap.size eb n p0 top M ef Pn K fr Bb 0 wm _ (by go_simp) (by go_simp) (by go_simp) h h1 hn hn1 HM.out.1 HM.out.2.1 hef hBb HM.out.2.2.1 htop HM.out.2.2.2.1 q0 q3 HM.out.2.2.2.2.1 HM.out.2.2.2.2.2 hz hz1).mono ?_
  rintro e w1 ⟨rfl, hb⟩
  have HB : Hid (Below w0.heap.size w0 w1) := (((Below.refl _ _).alloc (Nat.le_refl _) _).alloc (by simp) _).trans (hb.mono (by simp; omega))
  have hsz : w0.heap.size ≤ w1.heap.size := HB.out.size
  clear hb
  go_wp2
  go_ret
  exact ⟨rfl, HB.out.alloc hsz _⟩


set_option maxRecDepth 100000 in
set_option maxHeartbeats 2000000 in
theorem nar_not_pos (sel eb n ee frac M ef Pn K fr s0 p0 t pat top Bb wm : Nat) (w : World) (hee : ee ≤ 65535) (hfr : frac < W64) (h : eb ≤ 11) (h1 : 1 ≤ eb) (hn : n ≤ 52) (hn1 : 1 ≤ n) (hsel : Picks sel eb n)
    (hM : M + 1 = 2 ^ eb) (hB : Bb + 1 = 2 ^ (eb - 1)) (hef : (ef : Int) ≤ 2047) (hBb : (Bb : Int) ≤ 1023) (htop : (top : Int) ≤ 4095)
    (q1 : IntKind.u64.wrap (IntKind.u64.wrap (2 ^ eb) - 1) = (M : Int)) (q2 : bits .and .u64 (ee : Int) (M : Int) = (ef : Int)) (q0 : IntKind.u64.wrap (2 ^ n) = (Pn : Int)) (q3 : IntKind.u64.wrap ((Pn : Int) - 1) = (K : Int)) (q4 : bits .and .u64 (frac : Int) (K : Int) = (fr : Int))
    (q5 : IntKind.u64.wrap ((ef : Int) * 2 ^ n) = (s0 : Int)) (q6 : bits .or .u64 (s0 : Int) (fr : Int) = (p0 : Int)) 
    (r1 : (p0 : Int) / 2 ^ n = (top : Int)) (r2 : bits .and .i64 (top : Int) (M : Int) = (ef : Int)) (r3 : bits .and .u64 (p0 : Int) (K : Int) = (fr : Int)) (r4 : (top : Int) / 2 ^ eb = ((0 : Nat) : Int)) (hz : ((ef : Int) != 0) = true) (hz1 : 1 ≤ (ef : Int)) (q9 : bits .or .u64 (fr : Int) (Pn : Int) = (wm : Int)) :
    Calls Yba.prog 3 #[.int .u8 sel, .bool false, .int .u16 ee, .int .u64 frac] w fun e w' => e = .returned (.bool true) ∧ Below w.heap.size w w' := by
  have HS : Hid (Picks sel eb n) := hsel
  have HM : Hid (M + 1 = 2 ^ eb ∧ Bb + 1 = 2 ^ (eb - 1) ∧ (p0 : Int) / 2 ^ n = (top : Int) ∧ bits .and .i64 (top : Int) (M : Int) = (ef : Int) ∧ bits .and .u64 (p0 : Int) (K : Int) = (fr : Int) ∧ (top : Int) / 2 ^ eb = ((0 : Nat) : Int)) := ⟨hM, hB, r1, r2, r3, r4⟩
  have qb : ∀ k : Nat, k = eb - 1 → wrap64 (wrap64 (2 ^ k) - 1) = (Bb : Int) := fun k hk => by rw [hk]; exact pow_int (eb - 1) Bb (by omega) hB
  clear hsel hM hB r1 r2 r3 r4
  have i1 : (eb : Int) ≤ 11 := by omega
  have i2 : (n : Int) ≤ 52 := by omega
  have i3 : 1 ≤ (eb : Int) := by omega
  have i4 : 1 ≤ (n : Int) := by omega
  go_enter Yba.func3, Yba.ntmps3
  go_wp2_with fail
  refine (HS.out _).mono ?_
  rintro e w0 ⟨rfl, hw0⟩
  subst hw0
  go_wp2_with fail
  refine (num_pos w0.heap.size eb n p0 top M ef Pn K fr Bb 0 wm _ (by go_simp) (by go_simp) (by go_simp) h h1 hn hn1 HM.out.1 HM.out.2.1 hef hBb HM.out.2.2.1 htop HM.out.2.2.2.1 q0 q3 HM.out.2.2.2.2.1 HM.out.2.2.2.2.2 q9 hz hz1).mono ?_
  rintro e w1 ⟨rfl, hb⟩
  have HB : Hid (Below w0.heap.size w0 w1) := (((Below.refl _ _).alloc (Nat.le_refl _) _).alloc (by simp) _).trans (hb.mono (by simp; omega))
  have hsz : w0.heap.size ≤ w1.heap.size := HB.out.size
  clear hb
  go_wp2
  go_ret
  exact ⟨rfl, HB.out.alloc hsz _⟩


set_option maxRecDepth 100000 in
set_option maxHeartbeats 2000000 in
theorem nar_neg_zero (sel eb n ee frac M ef Pn K fr s0 p0 t pat top Bb wm : Nat) (w : World) (hee : ee ≤ 65535) (hfr : frac < W64) (h : eb ≤ 11) (h1 : 1 ≤ eb) (hn : n ≤ 52) (hn1 : 1 ≤ n) (hsel : Picks sel eb n)
    (hM : M + 1 = 2 ^ eb) (hB : Bb + 1 = 2 ^ (eb - 1)) (hef : (ef : Int) ≤ 2047) (hBb : (Bb : Int) ≤ 1023) (htop : (top : Int) ≤ 4095)
    (q1 : IntKind.u64.wrap (IntKind.u64.wrap (2 ^ eb) - 1) = (M : Int)) (q2 : bits .and .u64 (ee : Int) (M : Int) = (ef : Int)) (q0 : IntKind.u64.wrap (2 ^ n) = (Pn : Int)) (q3 : IntKind.u64.wrap ((Pn : Int) - 1) = (K : Int)) (q4 : bits .and .u64 (frac : Int) (K : Int) = (fr : Int))
    (q5 : IntKind.u64.wrap ((ef : Int) * 2 ^ n) = (s0 : Int)) (q6 : bits .or .u64 (s0 : Int) (fr : Int) = (p0 : Int)) (q7 : IntKind.u64.wrap (2 ^ (eb + n)) = (t : Int)) (q8 : bits .or .u64 (p0 : Int) (t : Int) = (pat : Int))
    (r1 : (pat : Int) / 2 ^ n = (top : Int)) (r2 : bits .and .i64 (top : Int) (M : Int) = (ef : Int)) (r3 : bits .and .u64 (pat : Int) (K : Int) = (fr : Int)) (r4 : (top : Int) / 2 ^ eb = ((1 : Nat) : Int)) (hz : ((ef : Int) != 0) = false) (hz1 : (ef : Int) < 1) :
    Calls Yba.prog 3 #[.int .u8 sel, .bool true, .int .u16 ee, .int .u64 frac] w fun e w' => e = .returned (.bool true) ∧ Below w.heap.size w w' := by
  have HS : Hid (Picks sel eb n) := hsel
  have HM : Hid (M + 1 = 2 ^ eb ∧ Bb + 1 = 2 ^ (eb - 1) ∧ (pat : Int) / 2 ^ n = (top : Int) ∧ bits .and .i64 (top : Int) (M : Int) = (ef : Int) ∧ bits .and .u64 (pat : Int) (K : Int) = (fr : Int) ∧ (top : Int) / 2 ^ eb = ((1 : Nat) : Int)) := ⟨hM, hB, r1, r2, r3, r4⟩
  have qb : ∀ k : Nat, k = eb - 1 → wrap64 (wrap64 (2 ^ k) - 1) = (Bb : Int) := fun k hk => by rw [hk]; exact pow_int (eb - 1) Bb (by omega) hB
  clear hsel hM hB r1 r2 r3 r4
  have i1 : (eb : Int) ≤ 11 := by omega
  have i2 : (n : Int) ≤ 52 := by omega
  have i3 : 1 ≤ (eb : Int) := by omega
  have i4 : 1 ≤ (n : Int) := by omega
  go_enter Yba.func3, Yba.ntmps3
  go_wp2_with fail
  refine (HS.out _).mono ?_
  rintro e w0 ⟨rfl, hw0⟩
  subst hw0
  go_wp2_with fail
  refine (num_zero w0.heap.size eb n pat top M ef Pn K fr Bb 1 wm _ (by go_simp) (by go_simp) (by go_simp) h h1 hn hn1 HM.out.1 HM.out.2.1 hef hBb HM.out.2.2.1 htop HM.out.2.2.2.1 q0 q3 HM.out.2.2.2.2.1 HM.out.2.2.2.2.2 hz hz1).mono ?_
  rintro e w1 ⟨rfl, hb⟩
  have HB : Hid (Below w0.heap.size w0 w1) := (((Below.refl _ _).alloc (Nat.le_refl _) _).alloc (by simp) _).trans (hb.mono (by simp; omega))
  have hsz : w0.heap.size ≤ w1.heap.size := HB.out.size
  clear hb
  go_wp2
  go_ret
  exact ⟨rfl, HB.out.alloc hsz _⟩


set_option maxRecDepth 100000 in
set_option maxHeartbeats 2000000 in
theorem nar_neg_pos (sel eb n ee frac M ef Pn K fr s0 p0 t pat top Bb wm : Nat) (w : World) (hee : ee ≤ 65535) (hfr : frac < W64) (h : eb ≤ 11) (h1 : 1 ≤ eb) (hn : n ≤ 52) (hn1 : 1 ≤ n) (hsel : Picks sel eb n)
    (hM : M + 1 = 2 ^ eb) (hB : Bb + 1 = 2 ^ (eb - 1)) (hef : (ef : Int) ≤ 2047) (hBb : (Bb : Int) ≤ 1023) (htop : (top : Int) ≤ 4095)
    (q1 : IntKind.u64.wrap (IntKind.u64.wrap (2 ^ eb) - 1) = (M : Int)) (q2 : bits .and .u64 (ee : Int) (M : Int) = (ef : Int)) (q0 : IntKind.u64.wrap (2 ^ n) = (Pn : Int)) (q3 : IntKind.u64.wrap ((Pn : Int) - 1) = (K : Int)) (q4 : bits .and .u64 (frac : Int) (K : Int) = (fr : Int))
    (q5 : IntKind.u64.wrap ((ef : Int) * 2 ^ n) = (s0 : Int)) (q6 : bits .or .u64 (s0 : Int) (fr : Int) = (p0 : Int)) (q7 : IntKind.u64.wrap (2 ^ (eb + n)) = (t : Int)) (q8 : bits .or .u64 (p0 : Int) (t : Int) = (pat : Int))
    (r1 : (pat : Int) / 2 ^ n = (top : Int)) (r2 : bits .and .i64 (top : Int) (M : Int) = (ef : Int)) (r3 : bits .and .u64 (pat : Int) (K : Int) = (fr : Int)) (r4 : (top : Int) / 2 ^ eb = ((1 : Nat) : Int)) (hz : ((ef : Int) != 0) = true) (hz1 : 1 ≤ (ef : Int)) (q9 : bits .or .u64 (fr : Int) (Pn : Int) = (wm : Int)) :
    Calls Yba.prog 3 #[.int .u8 sel, .bool true, .int .u16 ee, .int .u64 frac] w fun e w' => e = .returned (.bool true) ∧ Below w.heap.size w w' := by
  have HS : Hid (Picks sel eb n) := hsel
  have HM : Hid (M + 1 = 2 ^ eb ∧ Bb + 1 = 2 ^ (eb - 1) ∧ (pat : Int) / 2 ^ n = (top : Int) ∧ bits .and .i64 (top : Int) (M : Int) = (ef : Int) ∧ bits .and .u64 (pat : Int) (K : Int) = (fr : Int) ∧ (top : Int) / 2 ^ eb = ((1 : Nat) : Int)) := ⟨hM, hB, r1, r2, r3, r4⟩
  have qb : ∀ k : Nat, k = eb - 1 → wrap64 (wrap64 (2 ^ k) - 1) = (Bb : Int) := fun k hk => by rw [hk]; exact pow_int (eb - 1) Bb (by omega) hB
  clear hsel hM hB r1 r2 r3 r4
  have i1 : (eb : Int) ≤ 11 := by omega
  have i2 : (n : Int) ≤ 52 := by omega
  have i3 : 1 ≤ (eb : Int) := by omega
  have i4 : 1 ≤ (n : Int) := by omega
  go_enter Yba.func3, Yba.ntmps3
  go_wp2_with fail
  refine (HS.out _).mono ?_
  rintro e w0 ⟨rfl, hw0⟩
  subst hw0
  go_wp2_with fail
  refine (num_pos w0.heap.size eb n pat top M ef Pn K fr Bb 1 wm _ (by go_simp) (by go_simp) (by go_simp) h h1 hn hn1 HM.out.1 HM.out.2.1 hef hBb HM.out.2.2.1 htop HM.out.2.2.2.1 q0 q3 HM.out.2.2.2.2.1 HM.out.2.2.2.2.2 q9 hz hz1).mono ?_
  rintro e w1 ⟨rfl, hb⟩
  have HB : Hid (Below w0.heap.size w0 w1) := (((Below.refl _ _).alloc (Nat.le_refl _) _).alloc (by simp) _).trans (hb.mono (by simp; omega))
  have hsz : w0.heap.size ≤ w1.heap.size := HB.out.size
  clear hb
  go_wp2
  go_ret
  exact ⟨rfl, HB.out.alloc hsz _⟩

end Go.Proofs.Ybulkbhbq
