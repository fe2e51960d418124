/- Two-word numbers: what the model's operations on uint64 come to over Nat, and the bits of what comes out. No Go text is walked here. -/
import Derived.Laws.Bits64
import Derived.Laws.BitsAllLaws
namespace Go.Proofs.Ybulkbhbq.Plain
open Go

def W64 : Nat := 18446744073709551616
theorem W64_eq : W64 = 2 ^ 64 := by decide

/-- x shifted left by n, in a word -/
def shl (x n : Nat) : Nat := x * 2 ^ n % W64
theorem shl_lt (x n : Nat) : shl x n < W64 := Nat.mod_lt _ (by decide)
theorem wrap_shl (x n : Nat) : IntKind.u64.wrap ((x : Int) * 2 ^ n) = ((shl x n : Nat) : Int) := by
  rw [IntKind.wrap_u64]
  simp [shl, W64]
theorem wrap_one (n : Nat) : IntKind.u64.wrap (2 ^ n) = ((shl 1 n : Nat) : Int) := by
  have := wrap_shl 1 n
  simpa using this
theorem div_nat (x n : Nat) : (x : Int) / 2 ^ n = ((x / 2 ^ n : Nat) : Int) := by simp
theorem div_lt (x n : Nat) (h : x < W64) : x / 2 ^ n < W64 := Nat.lt_of_le_of_lt (Nat.div_le_self _ _) h
/-- the mask of n ones, n below 64 -/
theorem shl_one (n : Nat) (h : n < 64) : shl 1 n = 2 ^ n := by
  unfold shl
  rw [Nat.one_mul]
  exact Nat.mod_eq_of_lt (by rw [W64_eq]; exact Nat.pow_lt_pow_right (by decide) h)
theorem wrap_mask (n : Nat) (h : n < 64) : IntKind.u64.wrap (IntKind.u64.wrap (2 ^ n) - 1) = ((2 ^ n - 1 : Nat) : Int) := by
  rw [wrap_one, shl_one n h, IntKind.wrap_u64]
  have h1 : 2 ^ n < 2 ^ 64 := Nat.pow_lt_pow_right (by decide) h
  have h2 : 0 < 2 ^ n := Nat.two_pow_pos n
  have h3 : (2 : Nat) ^ 64 = 18446744073709551616 := by decide
  generalize (2 : Nat) ^ n = m at *
  omega
theorem mask_lt (n : Nat) (h : n < 64) : 2 ^ n - 1 < W64 := by
  have h1 : 2 ^ n < 2 ^ 64 := Nat.pow_lt_pow_right (by decide) h
  rw [W64_eq]; omega
theorem or_lt {a b : Nat} (ha : a < W64) (hb : b < W64) : a ||| b < W64 := by rw [W64_eq] at *; exact Nat.or_lt_two_pow ha hb
theorem and_lt {a b : Nat} (ha : a < W64) : a &&& b < W64 := by rw [W64_eq] at *; exact Nat.lt_of_le_of_lt Nat.and_le_left ha

/-! ### lsh, low, or, bit -/
def lshHi (hi lo n : Nat) : Nat := if 64 ≤ n then shl lo (n - 64) else shl hi n ||| lo / 2 ^ (64 - n)
def lshLo (lo n : Nat) : Nat := if 64 ≤ n then 0 else shl lo n
def lowHi (hi n : Nat) : Nat := if 64 ≤ n then hi &&& (2 ^ (n - 64) - 1) else 0
def lowLo (lo n : Nat) : Nat := if 64 ≤ n then lo else lo &&& (2 ^ n - 1)
def bitN (hi lo i : Nat) : Bool := if i < 64 then lo.testBit i else hi.testBit (i - 64)

theorem bit_eq (x i : Nat) (h : x < W64) : (bits .and .u64 ((x : Int) / 2 ^ i) 1 == 1) = x.testBit i := by
  rw [div_nat]
  have e : bits .and .u64 ((x / 2 ^ i : Nat) : Int) 1 = ((x / 2 ^ i &&& 1 : Nat) : Int) := u64_and_nat (x / 2 ^ i) 1 (div_lt x i h) (by decide)
  rw [e, nat_mask1, Nat.testBit_eq_decide_div_mod_eq]
  generalize x / 2 ^ i % 2 = y
  rw [Bool.eq_iff_iff]
  simp
  omega

theorem lshHi_lt (hi lo n : Nat) (h : lo < W64) : lshHi hi lo n < W64 := by
  unfold lshHi
  split
  · exact shl_lt _ _
  · exact or_lt (shl_lt _ _) (div_lt _ _ h)
theorem lshLo_lt (lo n : Nat) : lshLo lo n < W64 := by
  unfold lshLo
  split
  · decide
  · exact shl_lt _ _
theorem lowHi_lt (hi n : Nat) (h : hi < W64) : lowHi hi n < W64 := by
  unfold lowHi
  split
  · exact and_lt h
  · decide
theorem lowLo_lt (lo n : Nat) (h : lo < W64) : lowLo lo n < W64 := by
  unfold lowLo
  split
  · exact h
  · exact and_lt h

/-! ### their bits -/
theorem testBit_shl (x n i : Nat) : (shl x n).testBit i = (decide (i < 64) && decide (n ≤ i) && x.testBit (i - n)) := by
  unfold shl
  rw [W64_eq, Nat.testBit_mod_two_pow, Nat.mul_comm, Nat.testBit_two_pow_mul]
  cases decide (i < 64) <;> simp
theorem testBit_high (x i : Nat) (h : x < W64) (hi : 64 ≤ i) : x.testBit i = false :=
  Nat.testBit_lt_two_pow (Nat.lt_of_lt_of_le (by rw [← W64_eq]; exact h) (Nat.pow_le_pow_right (by decide) hi))
theorem testBit_mask (x n i : Nat) : (x &&& (2 ^ n - 1)).testBit i = (x.testBit i && decide (i < n)) := by
  rw [Nat.testBit_and, Nat.testBit_two_pow_sub_one]
theorem testBit_div (x n i : Nat) : (x / 2 ^ n).testBit i = x.testBit (i + n) := by
  rw [Nat.testBit_div_two_pow]

theorem bit_lsh (lo n i : Nat) (hn : n < 128) (hi : i < 128) : bitN (lshHi 0 lo n) (lshLo lo n) i = (decide (n ≤ i) && lo.testBit (i - n)) := by
  unfold bitN lshHi lshLo
  by_cases h : 64 ≤ n
  · simp only [if_pos h]
    by_cases h2 : i < 64
    · simp [h2]; intro h3; omega
    · simp only [if_neg h2, testBit_shl]
      have e1 : decide (i - 64 < 64) = true := by simp; omega
      have e2 : decide (n - 64 ≤ i - 64) = decide (n ≤ i) := by rw [Bool.eq_iff_iff]; simp; omega
      rw [e1, e2]
      by_cases h3 : n ≤ i
      · rw [show i - 64 - (n - 64) = i - n by omega]; simp
      · simp [h3]
  · simp only [if_neg h]
    by_cases h2 : i < 64
    · simp only [if_pos h2, testBit_shl]; simp [h2]
    · simp only [if_neg h2, Nat.testBit_or, testBit_shl, testBit_div]
      rw [show i - 64 + (64 - n) = i - n by omega]
      have e1 : decide (n ≤ i) = true := by simp; omega
      rw [e1]
      simp
theorem bit_low (hi lo n i : Nat) (hn : n < 128) (h : i < 128) : bitN (lowHi hi n) (lowLo lo n) i = (decide (i < n) && bitN hi lo i) := by
  unfold bitN lowHi lowLo
  by_cases h1 : 64 ≤ n
  · simp only [if_pos h1]
    by_cases h2 : i < 64
    · have : decide (i < n) = true := by simp; omega
      simp [h2, this]
    · simp only [if_neg h2, testBit_mask]
      have : decide (i - 64 < n - 64) = decide (i < n) := by rw [Bool.eq_iff_iff]; simp; omega
      rw [this, Bool.and_comm]
  · simp only [if_neg h1]
    by_cases h2 : i < 64
    · simp only [if_pos h2, testBit_mask]; rw [Bool.and_comm]
    · have : decide (i < n) = false := by simp; omega
      simp [h2, this]
theorem bit_or (a b c d i : Nat) : bitN (a ||| c) (b ||| d) i = (bitN a b i || bitN c d i) := by
  unfold bitN
  split <;> simp [Nat.testBit_or]

/-! ### newValue: the two words of the pattern; u: the biased exponent as a word; wd: the width -/
def nvHi (neg : Bool) (u sh n wd : Nat) : Nat :=
  if wd ≤ 64 then 0 else if neg then lshHi 0 u n ||| lowHi sh n ||| lshHi 0 1 (wd - 1) else lshHi 0 u n ||| lowHi sh n
def nvLo (neg : Bool) (u sl n wd : Nat) : Nat :=
  if wd ≤ 64 then (if neg then shl u n ||| sl &&& (2 ^ n - 1) ||| shl 1 (wd - 1) else shl u n ||| sl &&& (2 ^ n - 1))
  else if neg then lshLo u n ||| lowLo sl n ||| lshLo 1 (wd - 1) else lshLo u n ||| lowLo sl n
/-- what the law wants at place i, the sign aside -/
def wants (u sh sl n wd i : Nat) : Bool :=
  if i < n then bitN sh sl i else if i - n < 64 then (if wd ≤ 64 ∧ 64 ≤ i then false else bitN 0 u (i - n)) else false

theorem testBit_one (i : Nat) : Nat.testBit 1 i = decide (i = 0) := by
  cases i with
  | zero => rfl
  | succ i => simp [Nat.testBit_succ]
theorem bit_u (u k : Nat) (hk : k < 64) : bitN 0 u k = u.testBit k := by simp [bitN, hk]
theorem bit_sign (wd i : Nat) (h1 : 1 ≤ wd) (hw : wd ≤ 128) (hi : i < 128) : bitN (lshHi 0 1 (wd - 1)) (lshLo 1 (wd - 1)) i = decide (i = wd - 1) := by
  rw [bit_lsh 1 (wd - 1) i (by omega) hi, testBit_one, Bool.eq_iff_iff]
  simp
  omega
/-- the exponent and the significand of the wide way -/
theorem wide_core (u sh sl n wd i : Nat) (hu : u < W64) (hn : n < 128) (hw : ¬ wd ≤ 64) (hi : i < 128) :
    bitN (lshHi 0 u n ||| lowHi sh n) (lshLo u n ||| lowLo sl n) i = wants u sh sl n wd i := by
  rw [bit_or, bit_lsh u n i hn hi, bit_low sh sl n i hn hi]
  unfold wants
  by_cases h1 : i < n
  · have h2 : ¬ n ≤ i := by omega
    simp [h1, h2]
  · have h2 : n ≤ i := by omega
    rw [if_neg h1]
    by_cases h3 : i - n < 64
    · rw [if_pos h3, if_neg (by omega), bit_u u _ h3]
      simp [h1, h2]
    · rw [if_neg h3, testBit_high u _ hu (by omega)]
      simp [h1]
/-- .. and of the one-word way -/
theorem word_core (u sh sl e n i : Nat) (he : 1 ≤ e) (hw : 1 + e + n ≤ 64) :
    bitN 0 (shl u n ||| sl &&& (2 ^ n - 1)) i = wants u sh sl n (1 + e + n) i := by
  unfold wants
  by_cases h64 : i < 64
  · unfold bitN
    rw [if_pos h64, Nat.testBit_or, testBit_shl, testBit_mask]
    by_cases h1 : i < n
    · have h2 : ¬ n ≤ i := by omega
      simp [h1, h2, h64]
    · have h2 : n ≤ i := by omega
      rw [if_neg h1, if_pos (by omega), if_neg (by omega), if_pos (by omega)]
      simp [h1, h2, h64]
  · have h1 : ¬ i < n := by omega
    have : bitN 0 (shl u n ||| sl &&& (2 ^ n - 1)) i = false := by simp [bitN, h64]
    rw [this, if_neg h1]
    split
    · rw [if_pos (by omega)]
    · rfl

theorem layout (neg : Bool) (u sh sl e n i : Nat) (hu : u < W64) (he : 1 ≤ e) (hn : n + e ≤ 127) (hi : i < 128) :
    bitN (nvHi neg u sh n (1 + e + n)) (nvLo neg u sl n (1 + e + n)) i = (wants u sh sl n (1 + e + n) i || (neg && decide (i = 1 + e + n - 1))) := by
  unfold nvHi nvLo
  by_cases hw : 1 + e + n ≤ 64
  · simp only [if_pos hw]
    cases neg
    · simp only [Bool.false_eq_true, if_false, Bool.false_and, Bool.or_false]
      exact word_core u sh sl e n i he hw
    · simp only [if_true, Bool.true_and]
      rw [show (0 : Nat) = 0 ||| 0 by rfl, bit_or, word_core u sh sl e n i he hw]
      congr 1
      unfold bitN
      by_cases h64 : i < 64
      · rw [if_pos h64, testBit_shl, testBit_one, Bool.eq_iff_iff]
        simp [h64]
        omega
      · rw [if_neg h64, Bool.eq_iff_iff]
        simp
        omega
  · simp only [if_neg hw]
    cases neg
    · simp only [Bool.false_eq_true, if_false, Bool.false_and, Bool.or_false]
      exact wide_core u sh sl n (1 + e + n) i hu (by omega) hw hi
    · simp only [if_true, Bool.true_and]
      rw [bit_or, wide_core u sh sl n (1 + e + n) i hu (by omega) hw hi, bit_sign (1 + e + n) i (by omega) (by omega) hi]

theorem nvHi_lt (neg : Bool) (u sh n wd : Nat) (hu : u < W64) (hs : sh < W64) : nvHi neg u sh n wd < W64 := by
  unfold nvHi
  split
  · decide
  · split
    · exact or_lt (or_lt (lshHi_lt _ _ _ hu) (lowHi_lt _ _ hs)) (lshHi_lt _ _ _ (by decide))
    · exact or_lt (lshHi_lt _ _ _ hu) (lowHi_lt _ _ hs)
theorem nvLo_lt (neg : Bool) (u sl n wd : Nat) (hs : sl < W64) : nvLo neg u sl n wd < W64 := by
  unfold nvLo
  split
  · split
    · exact or_lt (or_lt (shl_lt _ _) (and_lt hs)) (shl_lt _ _)
    · exact or_lt (shl_lt _ _) (and_lt hs)
  · split
    · exact or_lt (or_lt (lshLo_lt _ _) (lowLo_lt _ _ hs)) (lshLo_lt _ _)
    · exact or_lt (lshLo_lt _ _) (lowLo_lt _ _ hs)
end Go.Proofs.Ybulkbhbq.Plain
