/- Contracts of the two-word operations and of the format's widths. -/
import Derived.Test.YbulkbhbqRows
import Derived.Test.YbulkbhbqPlain
import Derived.WalkKit
import Derived.ProofKit
import Derived.WalkLawsBesides
import Derived.WalkSpells
import Derived.Deep.QuietTactic
import Derived.BigQuiet
import Derived.Below
namespace Go.Proofs.Ybulkbhbq
open Go.ChangeShapes Go.WideShapes Go.ChangeAt Go.RowKit
open Plain
set_option linter.unusedVariables false

/-- a two-word number as a value -/
abbrev two (hi lo : Nat) : Value := .agg #[.int .u64 hi, .int .u64 lo]
/-- the two blocks that a method on a two-word number makes -/
abbrev New2 (w w' : World) : Prop := ∃ c1 c2 : Array Value, w' = (w.alloc (.cells c1 31)).alloc (.cells c2 31)
abbrev New3 (w w' : World) : Prop := ∃ c1 c2 c3 : Array Value, w' = ((w.alloc (.cells c1 31)).alloc (.cells c2 31)).alloc (.cells c3 31)

theorem lsh_far (hi lo n : Nat) (h : (64 : Int) ≤ (n : Int)) (hn : n < 128) (w : World) :
    Calls Yba.prog 14 #[two hi lo, .int .u64 n] w fun e w' => e = .returned (.agg #[.int .u64 (IntKind.u64.wrap ((lo : Int) * 2 ^ (n - 64))), .int .u64 (0)]) ∧ New2 w w' := by
  go_enter Yba.func14, Yba.ntmps14
  go_wp2
  exact bodyPost_ret (v := .agg #[.int .u64 (IntKind.u64.wrap ((lo : Int) * 2 ^ (n - 64))), .int .u64 (0)]) (by simp [results, Yba.results14, go_sem]) rfl ⟨rfl, _, _, rfl⟩

theorem lsh_near (hi lo n : Nat) (h : ¬ (64 : Int) ≤ (n : Int)) (w : World) :
    Calls Yba.prog 14 #[two hi lo, .int .u64 n] w fun e w' => e = .returned (.agg #[.int .u64 (bits .or .u64 (IntKind.u64.wrap ((hi : Int) * 2 ^ n)) ((lo : Int) / 2 ^ (64 - n))), .int .u64 (IntKind.u64.wrap ((lo : Int) * 2 ^ n))]) ∧ New2 w w' := by
  go_enter Yba.func14, Yba.ntmps14
  go_wp2
  exact bodyPost_ret (v := .agg #[.int .u64 (bits .or .u64 (IntKind.u64.wrap ((hi : Int) * 2 ^ n)) ((lo : Int) / 2 ^ (64 - n))), .int .u64 (IntKind.u64.wrap ((lo : Int) * 2 ^ n))]) (by simp [results, Yba.results14, go_sem]) rfl ⟨rfl, _, _, rfl⟩

theorem lsh_calls (hi lo n : Nat) (hl : lo < W64) (hn : n < 128) (w : World) :
    Calls Yba.prog 14 #[two hi lo, .int .u64 n] w fun e w' => e = .returned (two (lshHi hi lo n) (lshLo lo n)) ∧ New2 w w' := by
  by_cases h : 64 ≤ n
  · refine (lsh_far hi lo n (by omega) hn w).mono fun e w' ⟨he, hw⟩ => ⟨?_, hw⟩
    rw [he, wrap_shl, two, lshHi, if_pos h, lshLo, if_pos h]
    rfl
  · refine (lsh_near hi lo n (by omega) w).mono fun e w' ⟨he, hw⟩ => ⟨?_, hw⟩
    rw [he, wrap_shl, wrap_shl, div_nat, u64_or_nat _ _ (shl_lt _ _) (div_lt _ _ hl), two, lshHi, if_neg h, lshLo, if_neg h]

theorem low_far (hi lo n : Nat) (h : (64 : Int) ≤ (n : Int)) (hn : n < 128) (w : World) :
    Calls Yba.prog 16 #[two hi lo, .int .u64 n] w fun e w' => e = .returned (.agg #[.int .u64 (bits .and .u64 ((hi : Int)) (IntKind.u64.wrap (IntKind.u64.wrap (2 ^ (n - 64)) - 1))), .int .u64 ((lo : Int))]) ∧ New2 w w' := by
  go_enter Yba.func16, Yba.ntmps16
  go_wp2
  exact bodyPost_ret (v := .agg #[.int .u64 (bits .and .u64 ((hi : Int)) (IntKind.u64.wrap (IntKind.u64.wrap (2 ^ (n - 64)) - 1))), .int .u64 ((lo : Int))]) (by simp [results, Yba.results16, go_sem]) rfl ⟨rfl, _, _, rfl⟩

theorem low_near (hi lo n : Nat) (h : ¬ (64 : Int) ≤ (n : Int)) (w : World) :
    Calls Yba.prog 16 #[two hi lo, .int .u64 n] w fun e w' => e = .returned (.agg #[.int .u64 (0), .int .u64 (bits .and .u64 ((lo : Int)) (IntKind.u64.wrap (IntKind.u64.wrap (2 ^ n) - 1)))]) ∧ New2 w w' := by
  go_enter Yba.func16, Yba.ntmps16
  go_wp2
  exact bodyPost_ret (v := .agg #[.int .u64 (0), .int .u64 (bits .and .u64 ((lo : Int)) (IntKind.u64.wrap (IntKind.u64.wrap (2 ^ n) - 1)))]) (by simp [results, Yba.results16, go_sem]) rfl ⟨rfl, _, _, rfl⟩

theorem low_calls (hi lo n : Nat) (hh : hi < W64) (hl : lo < W64) (hn : n < 128) (w : World) :
    Calls Yba.prog 16 #[two hi lo, .int .u64 n] w fun e w' => e = .returned (two (lowHi hi n) (lowLo lo n)) ∧ New2 w w' := by
  by_cases h : 64 ≤ n
  · refine (low_far hi lo n (by omega) hn w).mono fun e w' ⟨he, hw⟩ => ⟨?_, hw⟩
    rw [he, wrap_mask _ (by omega), u64_and_nat _ _ hh (mask_lt _ (by omega)), two, lowHi, if_pos h, lowLo, if_pos h]
  · refine (low_near hi lo n (by omega) w).mono fun e w' ⟨he, hw⟩ => ⟨?_, hw⟩
    rw [he, wrap_mask _ (by omega), u64_and_nat _ _ hl (mask_lt _ (by omega)), two, lowHi, if_neg h, lowLo, if_neg h]
    rfl

theorem or_raw (a b c d : Nat)  (w : World) :
    Calls Yba.prog 15 #[two a b, two c d] w fun e w' => e = .returned (.agg #[.int .u64 (bits .or .u64 (a : Int) (c : Int)), .int .u64 (bits .or .u64 (b : Int) (d : Int))]) ∧ New3 w w' := by
  go_enter Yba.func15, Yba.ntmps15
  go_wp2
  exact bodyPost_ret (v := .agg #[.int .u64 (bits .or .u64 (a : Int) (c : Int)), .int .u64 (bits .or .u64 (b : Int) (d : Int))]) (by simp [results, Yba.results15, go_sem]) rfl ⟨rfl, _, _, _, rfl⟩

theorem or_calls (a b c d : Nat) (ha : a < W64) (hb : b < W64) (hc : c < W64) (hd : d < W64) (w : World) :
    Calls Yba.prog 15 #[two a b, two c d] w fun e w' => e = .returned (two (a ||| c) (b ||| d)) ∧ New3 w w' := by
  refine (or_raw a b c d w).mono fun e w' ⟨he, hw⟩ => ⟨?_, hw⟩
  rw [he, u64_or_nat _ _ ha hc, u64_or_nat _ _ hb hd]

theorem bit_near (hi lo i : Nat) (h : (i : Int) < 64) (w : World) :
    Calls Yba.prog 8 #[two hi lo, .int .i64 i] w fun e w' => e = .returned (.bool (bits .and .u64 ((lo : Int) / 2 ^ i) 1 == 1)) ∧ ∃ c1 : Array Value, w' = w.alloc (.cells c1 31) := by
  go_enter Yba.func8, Yba.ntmps8
  go_wp2
  go_ret
  exact ⟨rfl, _, rfl⟩
theorem bit_far (hi lo i : Nat) (h : ¬ (i : Int) < 64) (hi' : (i : Int) < 128) (w : World) :
    Calls Yba.prog 8 #[two hi lo, .int .i64 i] w fun e w' => e = .returned (.bool (bits .and .u64 ((hi : Int) / 2 ^ (i - 64)) 1 == 1)) ∧ ∃ c1 : Array Value, w' = w.alloc (.cells c1 31) := by
  go_enter Yba.func8, Yba.ntmps8
  go_wp2
  go_ret
  exact ⟨rfl, _, rfl⟩
theorem bit_calls (hi lo i : Nat) (hh : hi < W64) (hl : lo < W64) (h : i < 128) (w : World) :
    Calls Yba.prog 8 #[two hi lo, .int .i64 i] w fun e w' => e = .returned (.bool (bitN hi lo i)) ∧ ∃ c1 : Array Value, w' = w.alloc (.cells c1 31) := by
  by_cases h6 : i < 64
  · refine (bit_near hi lo i (by omega) w).mono fun e w' ⟨he, hw⟩ => ⟨?_, hw⟩
    rw [he, bit_eq _ _ hl, bitN, if_pos h6]
  · refine (bit_far hi lo i (by omega) (by omega) w).mono fun e w' ⟨he, hw⟩ => ⟨?_, hw⟩
    rw [he, bit_eq _ _ hh, bitN, if_neg h6]

/-- a format in memory: e exponent bits, n stored significand bits, the integer bit stored or not -/
structure Fmt (w : World) (F e n : Nat) (ex : Bool) : Prop where
  c2 : w.cell? ⟨F, 2, none⟩ = some (.int .i64 e)
  c3 : w.cell? ⟨F, 3, none⟩ = some (.int .i64 (if ex then (n : Int) else (n : Int) + 1))
  c4 : w.cell? ⟨F, 4, none⟩ = some (.bool ex)
theorem sb_calls (F e n : Nat) (ex : Bool) (hn : n < 128) (w : World) (h : Fmt w F e n ex) :
    Calls Yba.prog 12 #[.pointer (some ⟨F, 0, none⟩)] w fun e w' => e = .returned (.int .i64 n) ∧ w' = w := by
  obtain ⟨c2, c3, c4⟩ := h
  cases ex
  · simp only [Bool.false_eq_true, if_false] at c3
    go_enter Yba.func12, Yba.ntmps12
    go_wp2
    go_ret
    exact ⟨by simp, rfl⟩
  · simp only [if_true] at c3
    go_enter Yba.func12, Yba.ntmps12
    go_wp2
    go_ret
    exact ⟨rfl, rfl⟩
theorem width_calls (F e n : Nat) (ex : Bool) (he : e < 16) (hn : n < 128) (w : World) (h : Fmt w F e n ex) :
    Calls Yba.prog 13 #[.pointer (some ⟨F, 0, none⟩)] w fun r w' => r = .returned (.int .i64 (1 + (e : Int) + (n : Int))) ∧ ∃ k, w' = w.drewN k := by
  have c2 := h.c2
  go_enter Yba.func13, Yba.ntmps13
  go_wp2
  go_quiet ((go_at_call 12; exact Calls.quiet_of_same (sb_calls F e n ex hn _ ⟨h.c2, h.c3, h.c4⟩)))
  go_wp2
  go_ret
  exact ⟨rfl, _, rfl⟩
end Go.Proofs.Ybulkbhbq
