/- The plain arithmetic of a one-word pattern: eb exponent bits, n fraction bits. No Go text is walked here. -/
import Derived.Test.YbulkbhbqPlain
import Derived.Laws.BitsLemmas
namespace Go.Proofs.Ybulkbhbq.Plain
open Go

theorem i64_and_nat (a b : Nat) (ha : a < 9223372036854775808) (hb : b < 9223372036854775808) : bits .and .i64 (a : Int) (b : Int) = ((a &&& b : Nat) : Int) := by
  have h : a &&& b < 9223372036854775808 := Nat.lt_of_le_of_lt Nat.and_le_left ha
  show IntKind.i64.wrap ((BitVec.ofInt 64 (a : Int) &&& BitVec.ofInt 64 (b : Int)).toNat : Int) = _
  rw [BitVec.toNat_and, ofInt_u64 a (by omega), ofInt_u64 b (by omega), IntKind.wrap_i64]
  omega
theorem pow_pos (k : Nat) : 0 < 2 ^ k := Nat.two_pow_pos k
theorem pow_le (k : Nat) (m : Nat) (h : k ≤ m) : 2 ^ k ≤ 2 ^ m := Nat.pow_le_pow_right (by decide) h

section
variable (eb n ee frac : Nat)
theorem efld_lt : ee % 2 ^ eb < 2 ^ eb := Nat.mod_lt _ (pow_pos eb)
theorem frac_lt : frac % 2 ^ n < 2 ^ n := Nat.mod_lt _ (pow_pos n)

/-- the exponent's field -/
theorem p_ef (h : eb ≤ 11) (hee : ee ≤ 65535) : bits .and .u64 (ee : Int) ((2 ^ eb - 1 : Nat) : Int) = ((ee % 2 ^ eb : Nat) : Int) := by
  rw [u64_and_nat _ _ (by omega) (mask_lt eb (by omega)), Nat.and_two_pow_sub_one_eq_mod]
/-- the fraction; and of a pattern too -/
theorem p_fr (h : n ≤ 52) (hf : frac < W64) : bits .and .u64 (frac : Int) ((2 ^ n - 1 : Nat) : Int) = ((frac % 2 ^ n : Nat) : Int) := by
  rw [u64_and_nat _ _ hf (mask_lt n (by omega)), Nat.and_two_pow_sub_one_eq_mod]
theorem p_one (h : n ≤ 63) : IntKind.u64.wrap (2 ^ n) = ((2 ^ n : Nat) : Int) := by rw [wrap_one, shl_one n (by omega)]
theorem p_mask (h : n ≤ 63) : IntKind.u64.wrap (((2 ^ n : Nat) : Int) - 1) = ((2 ^ n - 1 : Nat) : Int) := by
  have := wrap_mask n (by omega)
  rw [p_one n h] at this
  exact this
/-- the product stays in the word -/
theorem prod_lt (k : Nat) (hk : k < 2 ^ (eb + 1)) (f : Nat) (hf : f < 2 ^ n) : k * 2 ^ n + f < 2 ^ (eb + 1 + n) := by
  have h1 : (k + 1) * 2 ^ n ≤ 2 ^ (eb + 1) * 2 ^ n := Nat.mul_le_mul_right _ hk
  rw [Nat.pow_add]
  rw [Nat.add_mul, Nat.one_mul] at h1
  omega
theorem word_of_lt {x k : Nat} (hk : k ≤ 64) (h : x < 2 ^ k) : x < W64 := by
  have := pow_le k 64 hk
  rw [W64_eq]; omega
theorem p_shl (ef : Nat) (h : ef < 2 ^ eb) (hb : eb + n ≤ 63) : IntKind.u64.wrap ((ef : Int) * 2 ^ n) = ((ef * 2 ^ n : Nat) : Int) := by
  rw [wrap_shl, shl]
  congr 1
  refine Nat.mod_eq_of_lt (word_of_lt (k := eb + 1 + n) (by omega) ?_)
  have := prod_lt eb n ef (by have := pow_le eb (eb + 1) (by omega); omega) 0 (pow_pos n)
  omega
theorem p_or (ef fr : Nat) (h : ef < 2 ^ eb) (hf : fr < 2 ^ n) (hb : eb + n ≤ 63) : bits .or .u64 ((ef * 2 ^ n : Nat) : Int) (fr : Int) = ((ef * 2 ^ n + fr : Nat) : Int) := by
  have h0 := prod_lt eb n ef (by have := pow_le eb (eb + 1) (by omega); omega) fr hf
  have hw : ef * 2 ^ n + fr < W64 := word_of_lt (k := eb + 1 + n) (by omega) h0
  rw [u64_or_nat _ _ (show _ < W64 by omega) (show _ < W64 by omega), nat_join n _ _ (Nat.mul_mod_left _ _) hf]
theorem p_sign (ef fr : Nat) (h : ef < 2 ^ eb) (hf : fr < 2 ^ n) (hb : eb + n ≤ 63) : bits .or .u64 ((ef * 2 ^ n + fr : Nat) : Int) ((2 ^ (eb + n) : Nat) : Int) = (((ef + 2 ^ eb) * 2 ^ n + fr : Nat) : Int) := by
  have h1 : ef * 2 ^ n + fr < 2 ^ (eb + n) := by
    have h2 : (ef + 1) * 2 ^ n ≤ 2 ^ eb * 2 ^ n := Nat.mul_le_mul_right _ h
    rw [Nat.pow_add]
    rw [Nat.add_mul, Nat.one_mul] at h2
    omega
  have hw1 : ef * 2 ^ n + fr < W64 := word_of_lt (k := eb + n) (by omega) h1
  have hw2 : 2 ^ (eb + n) < W64 := by
    have := pow_le (eb + n) 63 hb
    rw [W64_eq]
    have : (2 : Nat) ^ 63 < 2 ^ 64 := by decide
    omega
  rw [u64_or_nat _ _ hw1 hw2, Nat.or_comm, nat_join (eb + n) _ _ (Nat.mod_self _) h1, Nat.add_mul, Nat.pow_add]
  congr 1
  omega
/-- the sign and the exponent's field: the pattern shifted down -/
theorem p_top (T fr : Nat) (hf : fr < 2 ^ n) : ((T * 2 ^ n + fr : Nat) : Int) / 2 ^ n = (T : Int) := by
  rw [div_nat, Nat.add_comm, Nat.add_mul_div_right _ _ (pow_pos n), Nat.div_eq_of_lt hf, Nat.zero_add]
theorem p_low (T fr : Nat) (hf : fr < 2 ^ n) (h : n ≤ 52) (hw : T * 2 ^ n + fr < W64) : bits .and .u64 ((T * 2 ^ n + fr : Nat) : Int) ((2 ^ n - 1 : Nat) : Int) = (fr : Int) := by
  rw [p_fr n _ h hw, Nat.add_comm, Nat.add_mul_mod_self_right, Nat.mod_eq_of_lt hf]
theorem p_field (s ef : Nat) (h : ef < 2 ^ eb) (he : eb ≤ 11) (hs : s ≤ 1) : bits .and .i64 ((ef + s * 2 ^ eb : Nat) : Int) ((2 ^ eb - 1 : Nat) : Int) = (ef : Int) := by
  have h1 := pow_le eb 11 he
  have h2 : (2 : Nat) ^ 11 = 2048 := by decide
  have h3 : s * 2 ^ eb ≤ 1 * 2 ^ eb := Nat.mul_le_mul_right _ hs
  rw [i64_and_nat _ _ (by omega) (by omega), Nat.and_two_pow_sub_one_eq_mod, Nat.add_mul_mod_self_right, Nat.mod_eq_of_lt h]
theorem p_sgn (s ef : Nat) (h : ef < 2 ^ eb) : ((ef + s * 2 ^ eb : Nat) : Int) / 2 ^ eb = (s : Int) := by
  rw [div_nat, Nat.add_mul_div_right _ _ (pow_pos eb), Nat.div_eq_of_lt h, Nat.zero_add]
theorem p_int (fr : Nat) (hf : fr < 2 ^ n) (h : n ≤ 52) : bits .or .u64 (fr : Int) ((2 ^ n : Nat) : Int) = ((fr + 2 ^ n : Nat) : Int) := by
  have h1 := pow_le n 52 h
  have h2 : (2 : Nat) ^ 52 < 2 ^ 64 := by decide
  have h3 : 2 ^ n < W64 := by rw [W64_eq]; omega
  rw [u64_or_nat _ _ (show _ < W64 by omega) h3, Nat.or_comm, nat_join n _ _ (Nat.mod_self _) hf, Nat.add_comm]
end
end Go.Proofs.Ybulkbhbq.Plain
