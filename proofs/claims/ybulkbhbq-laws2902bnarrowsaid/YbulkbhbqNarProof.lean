/-
  The proof of 'Rows.LawS2902BNarrowSaid': the row's frame (the guide's skeleton), the walk out of YbulkbhbqNar.lean.
-/
import Derived.Test.YbulkbhbqRows
import Derived.WalkKit
import Derived.ProofKit
import Derived.OpenShut
import Derived.ShutString
import Derived.ChangeOld
import Derived.Below
import Derived.Test.YbulkbhbqNar
namespace Go.Proofs.Ybulkbhbq.lawS2902BNarrow
open Go.ChangeShapes Go.WideShapes Go.ChangeAt Go.RowKit
open Go.ChangeMaps (open_string shut_string)
set_option linter.unusedVariables false      -- a walk need not use every 'w<i>' (that an integer argument fits its kind)

theorem own : ownKnob Yba.prog.godebug = none := by kernel_rfl

/-! ### STEP 1: THE WALK -/
open Plain in
/-- any of the four formats -/
theorem core (sel eb n ee frac : Nat) (neg : Bool) (w : World) (hee : ee ≤ 65535) (hfr : frac < W64) (h : eb ≤ 11) (h1 : 1 ≤ eb) (hn : n ≤ 52) (hn1 : 1 ≤ n) (hsel : Picks sel eb n) :
    Calls Yba.prog 3 #[.int .u8 sel, .bool neg, .int .u16 ee, .int .u64 frac] w fun e w' => e = .returned (.bool true) ∧ Below w.heap.size w w' := by
  have hef := efld_lt eb ee
  have hf := frac_lt n frac
  have p1 := pow_le eb 11 h
  have p2 : (2 : Nat) ^ 11 = 2048 := by decide
  have p3 := pow_pos eb
  have p4 := pow_pos (eb - 1)
  have p5 := pow_le (eb - 1) 10 (by omega)
  have p6 : (2 : Nat) ^ 10 = 1024 := by decide
  have hw : ∀ T, T < 2 ^ (eb + 1) → T * 2 ^ n + frac % 2 ^ n < W64 := fun T hT => word_of_lt (k := eb + 1 + n) (by omega) (prod_lt eb n T hT _ hf)
  have hee2 : 2 ^ (eb + 1) = 2 ^ eb + 2 ^ eb := by rw [Nat.pow_succ]; omega
  have q1 := wrap_mask eb (by omega)
  have q2 := p_ef eb ee h hee
  have q0 := p_one n (by omega)
  have q3 := p_mask n (by omega)
  have q4 := p_fr n frac hn hfr
  have q5 := p_shl eb n (ee % 2 ^ eb) hef (by omega)
  have q6 := p_or eb n (ee % 2 ^ eb) (frac % 2 ^ n) hef hf (by omega)
  have hM : (2 ^ eb - 1) + 1 = 2 ^ eb := by omega
  have hB : (2 ^ (eb - 1) - 1) + 1 = 2 ^ (eb - 1) := by omega
  have e0 : ee % 2 ^ eb + 0 * 2 ^ eb = ee % 2 ^ eb := by omega
  have e1 : ee % 2 ^ eb + 1 * 2 ^ eb = ee % 2 ^ eb + 2 ^ eb := by omega
  have b1 : ((ee % 2 ^ eb : Nat) : Int) ≤ 2047 := by omega
  have b2 : ((2 ^ (eb - 1) - 1 : Nat) : Int) ≤ 1023 := by omega
  by_cases hz : ee % 2 ^ eb = 0
  · have z1 : (((ee % 2 ^ eb : Nat) : Int) != 0) = false := by rw [hz]; rfl
    have z2 : ((ee % 2 ^ eb : Nat) : Int) < 1 := by omega
    cases neg
    · have r2 := p_field eb 0 (ee % 2 ^ eb) hef h (by omega)
      have r4 := p_sgn eb 0 (ee % 2 ^ eb) hef
      rw [e0] at r2 r4
      exact nar_not_zero sel eb n ee frac (2 ^ eb - 1) (ee % 2 ^ eb) (2 ^ n) (2 ^ n - 1) (frac % 2 ^ n) (ee % 2 ^ eb * 2 ^ n) (ee % 2 ^ eb * 2 ^ n + frac % 2 ^ n) 0 0 (ee % 2 ^ eb) (2 ^ (eb - 1) - 1) 0 w hee hfr h h1 hn hn1 hsel hM hB b1 b2 (by omega)
        q1 q2 q0 q3 q4 q5 q6 (p_top n _ _ hf) r2 (p_low n _ _ hf hn (hw _ (by omega))) r4 z1 z2
    · have r2 := p_field eb 1 (ee % 2 ^ eb) hef h (by omega)
      have r4 := p_sgn eb 1 (ee % 2 ^ eb) hef
      rw [e1] at r2 r4
      exact nar_neg_zero sel eb n ee frac (2 ^ eb - 1) (ee % 2 ^ eb) (2 ^ n) (2 ^ n - 1) (frac % 2 ^ n) (ee % 2 ^ eb * 2 ^ n) (ee % 2 ^ eb * 2 ^ n + frac % 2 ^ n) (2 ^ (eb + n)) ((ee % 2 ^ eb + 2 ^ eb) * 2 ^ n + frac % 2 ^ n) (ee % 2 ^ eb + 2 ^ eb) (2 ^ (eb - 1) - 1) 0 w hee hfr h h1 hn hn1 hsel hM hB b1 b2 (by omega)
        q1 q2 q0 q3 q4 q5 q6 (p_one (eb + n) (by omega)) (p_sign eb n _ _ hef hf (by omega)) (p_top n _ _ hf) r2 (p_low n _ _ hf hn (hw _ (by omega))) r4 z1 z2
  · have z1 : (((ee % 2 ^ eb : Nat) : Int) != 0) = true := by rw [bne_iff_ne]; omega
    have z2 : 1 ≤ ((ee % 2 ^ eb : Nat) : Int) := by omega
    have q9 := p_int n (frac % 2 ^ n) hf hn
    cases neg
    · have r2 := p_field eb 0 (ee % 2 ^ eb) hef h (by omega)
      have r4 := p_sgn eb 0 (ee % 2 ^ eb) hef
      rw [e0] at r2 r4
      exact nar_not_pos sel eb n ee frac (2 ^ eb - 1) (ee % 2 ^ eb) (2 ^ n) (2 ^ n - 1) (frac % 2 ^ n) (ee % 2 ^ eb * 2 ^ n) (ee % 2 ^ eb * 2 ^ n + frac % 2 ^ n) 0 0 (ee % 2 ^ eb) (2 ^ (eb - 1) - 1) (frac % 2 ^ n + 2 ^ n) w hee hfr h h1 hn hn1 hsel hM hB b1 b2 (by omega)
        q1 q2 q0 q3 q4 q5 q6 (p_top n _ _ hf) r2 (p_low n _ _ hf hn (hw _ (by omega))) r4 z1 z2 q9
    · have r2 := p_field eb 1 (ee % 2 ^ eb) hef h (by omega)
      have r4 := p_sgn eb 1 (ee % 2 ^ eb) hef
      rw [e1] at r2 r4
      exact nar_neg_pos sel eb n ee frac (2 ^ eb - 1) (ee % 2 ^ eb) (2 ^ n) (2 ^ n - 1) (frac % 2 ^ n) (ee % 2 ^ eb * 2 ^ n) (ee % 2 ^ eb * 2 ^ n + frac % 2 ^ n) (2 ^ (eb + n)) ((ee % 2 ^ eb + 2 ^ eb) * 2 ^ n + frac % 2 ^ n) (ee % 2 ^ eb + 2 ^ eb) (2 ^ (eb - 1) - 1) (frac % 2 ^ n + 2 ^ n) w hee hfr h h1 hn hn1 hsel hM hB b1 b2 (by omega)
        q1 q2 q0 q3 q4 q5 q6 (p_one (eb + n) (by omega)) (p_sign eb n _ _ hef hf (by omega)) (p_top n _ _ hf) r2 (p_low n _ _ hf hn (hw _ (by omega))) r4 z1 z2 q9

theorem walk (a0 : Int) (a1 : Bool) (a2 : Int) (a3 : Int) (w0 : (Lit.int .u8 a0).wf = true) (w2 : (Lit.int .u16 a2).wf = true) (w3 : (Lit.int .u64 a3).wf = true) (w : World) :
    Calls Yba.prog 3 #[.int .u8 a0, .bool a1, .int .u16 a2, .int .u64 a3] w fun e w' => e = .returned (.bool true) ∧ Below w.heap.size w w' := by
  have b0 := bounds_u8 w0
  have b2 := bounds_u16 w2
  have b3 := bounds_u64 w3
  obtain ⟨sel, rfl⟩ := Int.eq_ofNat_of_zero_le b0.1
  obtain ⟨ee, rfl⟩ := Int.eq_ofNat_of_zero_le b2.1
  obtain ⟨frac, rfl⟩ := Int.eq_ofNat_of_zero_le b3.1
  have hfr : frac < Plain.W64 := by show frac < 18446744073709551616; omega
  rcases (show (sel : Int) % 4 = 0 ∨ (sel : Int) % 4 = 1 ∨ (sel : Int) % 4 = 2 ∨ (sel : Int) % 4 = 3 by omega) with hs | hs | hs | hs
  · exact core sel 5 10 ee frac a1 w (by omega) hfr (by decide) (by decide) (by decide) (by decide) (picks_0 sel (by omega) hs)
  · exact core sel 8 7 ee frac a1 w (by omega) hfr (by decide) (by decide) (by decide) (by decide) (picks_1 sel (by omega) hs)
  · exact core sel 8 23 ee frac a1 w (by omega) hfr (by decide) (by decide) (by decide) (by decide) (picks_2 sel (by omega) hs)
  · exact core sel 11 52 ee frac a1 w (by omega) hfr (by decide) (by decide) (by decide) (by decide) (picks_3 sel (by omega) hs)

/-! ### THE ROW's STEP -/
set_option maxRecDepth 100000 in
theorem lifted (os : Os) (started : os.Started) (H : Type) (enc : TypeId × Value → H) :
    ReturnsInHanded {} Yba.checked os 3 .any (Rows.lawS2902BNarrowSpec.pre6 enc Yba.prog Yba.f3 Rows.lawS2902BNarrowRow.domain false) (Rows.lawS2902BNarrowSpec.post enc Yba.prog Yba.f3 false true false false) := by
  refine returnsInHanded_of_change (C := Yba.checked) own started (by kernel_rfl) Yba.func3
    (ChangeSpec.witness6 (enc := enc) (C := Yba.checked) false ⟨#[], #[.int .u8 0, .bool false, .int .u16 0, .int .u64 0], []⟩ 8 (by kernel_rfl) (by kernel_rfl) (by kernel_rfl) (by kernel_rfl)) ?_
  intro W base args ds gs before hval0 hW hcnd _
  have hval : ∀ (j : Nat) t v, Yba.f3.params[j]? = some t → args[j]? = some v → Value.okWide Yba.prog W .any base t v := hval0
  have hW' := hW
  obtain ⟨p, q, hA0, hV, rfl, hfz, hnd⟩ := hW
  have hA : DataW.TrodAll enc Yba.prog W 0 (fun _ => true) true Yba.f3.params.toList args.toList ds p := hA0
  rw [Yba.params3] at hA hval
  obtain ⟨v0, vs0, d0, ds0, p0, q0, hargs, rfl, rfl, h0, r0⟩ := trodAll_cons hA
  obtain ⟨v1, vs1, d1, ds1, p1, q1, rfl, rfl, rfl, h1, r1⟩ := trodAll_cons r0
  obtain ⟨v2, vs2, d2, ds2, p2, q2, rfl, rfl, rfl, h2, r2⟩ := trodAll_cons r1
  obtain ⟨v3, vs3, d3, ds3, p3, q3, rfl, rfl, rfl, h3, r3⟩ := trodAll_cons r2
  obtain ⟨rfl, rfl, rfl⟩ := trodAll_nil r3
  obtain rfl : args = #[v0, v1, v2, v3] := by cases args; simp_all
  obtain ⟨rfl, rfl⟩ := trodVars_none hV
  obtain ⟨a0, rfl, rfl, rfl, w0⟩ := open_int Yba.underlying5 (hval 0 5 v0 rfl rfl) h0
  obtain ⟨a1, rfl, rfl, rfl⟩ := open_bool Yba.underlying4 (hval 1 4 v1 rfl rfl) h1
  obtain ⟨a2, rfl, rfl, rfl, w2⟩ := open_int Yba.underlying22 (hval 2 22 v2 rfl rfl) h2
  obtain ⟨a3, rfl, rfl, rfl, w3⟩ := open_int Yba.underlying23 (hval 3 23 v3 rfl rfl) h3
  clear hA0 hval0
  simp only [List.append_nil] at hW'
  refine (walk a0 a1 a2 a3 w0 w2 w3 W).mono fun e W' ⟨he, hg⟩ => ?_
  subst he
  exact ⟨_, rfl, _, _, _, [], [], [], hW', trodAll_mk1 (shut_bool Yba.underlying4 _), (trodAll_cons_mk (shut_int Yba.underlying5 w0) (trodAll_cons_mk (shut_bool Yba.underlying4 _) (trodAll_cons_mk (shut_int Yba.underlying22 w2) (trodAll_cons_mk (shut_int Yba.underlying23 w3) trodAll_mk0)))), rfl, hg.frame _, fun h => by cases h⟩

theorem over : Rows.lawS2902BNarrowRow.holds Yba.pinned (OpenSpec.ofChange Rows.lawS2902BNarrowSpec) :=
  OpenClaim.holds_of_wide 3 Yba.f3 rfl rfl rfl rfl rfl rfl rfl ⟨rfl, rfl, rfl, rfl, rfl⟩ rfl rfl rfl rfl rfl (by kernel_rfl) Yba.func3 (by kernel_rfl)
    (of_decide_eq_true (by kernel_rfl)) (by unfold Func.isWrapper; first | (rw [if_pos (by decide +kernel)]; kernel_rfl) | (rw [if_neg (by decide +kernel)]; exact ⟨rfl, rfl⟩))
    (fun os started H enc _ => lifted os started H enc)

/-- ████ THE STATEMENT ████ -/
theorem proved : Rows.LawS2902BNarrowSaid :=
  over
end Go.Proofs.Ybulkbhbq.lawS2902BNarrow

namespace Go.Proofs.Ybulkbhbq
theorem lawS2902BNarrow_holds : Rows.LawS2902BNarrowSaid :=
  lawS2902BNarrow.proved
end Go.Proofs.Ybulkbhbq
