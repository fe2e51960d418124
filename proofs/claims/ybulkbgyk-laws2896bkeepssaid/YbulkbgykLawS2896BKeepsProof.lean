/-
  The proof of 'Rows.LawS2896BKeepsSaid': the row's frame, turned from the guide's skeleton for a slice of integers to a slice of strings.
-/
import Derived.Test.YbulkbgykRows
import Derived.Test.YbulkbgykKeepsWalks
import Derived.WalkKit
import Derived.ProofKit
import Derived.OpenShut
import Derived.ShutString
import Derived.ChangeOld
import Derived.Below
import Derived.SliceStrings
namespace Go.Proofs.Ybulkbgyk.lawS2896BKeeps
open Go.ChangeShapes Go.WideShapes Go.ChangeAt Go.RowKit
open Go.ChangeMaps (open_string shut_string)
set_option linter.unusedVariables false

theorem own : ownKnob Yba.prog.godebug = none := by kernel_rfl
theorem laidOut : laidOutB Yba.prog = true := by kernel_rfl

/-- WHAT THE WALK IS TOLD OF A SLICE OF STRINGS THAT CAME IN: it is nil; or it leads to a row of cells that hold the strings 'ss'. -/
def IsStrs (w : World) (a : Option Addr) (len cap : Nat) (ss : List ByteArray) : Prop :=
  (a = none ∧ len = 0 ∧ cap = 0 ∧ ss = []) ∨
  ∃ x, a = some x ∧ len ≤ cap ∧ cap ≤ maxLen ∧ ss.length = cap ∧ (∀ i, i < ss.length → w.cell? (x.add i) = some (.string (ss.getD i ByteArray.empty)))

theorem walk (a0 : Int) (a1 : Option Addr) (len cap : Nat) (ss : List ByteArray) (a2 : Bool) (w : World) (h : IsStrs w a1 len cap ss) :
    Calls Yba.prog 4 #[.int .u64 a0, .slice a1 len cap, .bool a2] w fun e w' => e = .returned (.bool true) ∧ Below w.heap.size w w' := by
  rcases h with ⟨rfl, rfl, rfl, rfl⟩ | ⟨x, rfl, hl, hm, hz, hcell⟩
  · exact keeps_none a0 none 0 a2 w
  · by_cases h0 : len = 0
    · subst h0
      exact keeps_none a0 (some x) cap a2 w
    · by_cases h1 : 1024 < len
      · exact keeps_many a0 (some x) len cap a2 w h1 (by omega)
      · obtain ⟨b, off, spot⟩ := x
        have hspot : spot = none := by simpa [Addr.add] using World.cell?_spot (hcell 0 (by omega))
        subst hspot
        exact keeps_some a0 b off len cap ss a2 w (by omega) (by omega) (by omega) (fun i hi => by rw [← add_plain]; exact hcell i hi)

set_option maxRecDepth 100000 in
theorem lifted (os : Os) (started : os.Started) (H : Type) (enc : TypeId × Value → H) :
    ReturnsInHanded {} Yba.checked os 4 .any (Rows.lawS2896BKeepsSpec.pre6 enc Yba.prog Yba.f4 Rows.lawS2896BKeepsRow.domain false) (Rows.lawS2896BKeepsSpec.post enc Yba.prog Yba.f4 false true false false) := by
  refine returnsInHanded_of_change (C := Yba.checked) own started (by kernel_rfl) Yba.func4
    (ChangeSpec.witness6 (enc := enc) (C := Yba.checked) false ⟨#[], #[.int .u64 0, .slice none 0 0, .bool false], []⟩ 8 (by kernel_rfl) (by kernel_rfl) (by kernel_rfl) (by kernel_rfl)) ?_
  intro W base args ds gs before hval0 hW hcnd _
  have hval : ∀ (j : Nat) t v, Yba.f4.params[j]? = some t → args[j]? = some v → Value.okWide Yba.prog W .any base t v := hval0
  have hW' := hW
  obtain ⟨p, q, hA0, hV, rfl, hfz, hnd⟩ := hW
  have hA : DataW.TrodAll enc Yba.prog W 0 (fun _ => true) true Yba.f4.params.toList args.toList ds p := hA0
  rw [Yba.params4] at hA hval
  obtain ⟨v0, vs0, d0, ds0, p0, q0, hargs, rfl, rfl, h0, r0⟩ := trodAll_cons hA
  obtain ⟨v1, vs1, d1, ds1, p1, q1, rfl, rfl, rfl, h1, r1⟩ := trodAll_cons r0
  obtain ⟨v2, vs2, d2, ds2, p2, q2, rfl, rfl, rfl, h2, r2⟩ := trodAll_cons r1
  obtain ⟨rfl, rfl, rfl⟩ := trodAll_nil r2
  obtain rfl : args = #[v0, v1, v2] := by cases args; simp_all
  obtain ⟨rfl, rfl⟩ := trodVars_none hV
  obtain ⟨a0, rfl, rfl, rfl, w0⟩ := open_int Yba.underlying22 (hval 0 22 v0 rfl rfl) h0
  obtain ⟨a1, len1, cap1, rfl⟩ := okWide_slice Yba.underlying45 (hval 1 45 v1 rfl rfl)
  have k1 := h1
  have lt1 : ∀ x ∈ p1, x.block < W.heap.size := by obtain ⟨m, hm⟩ := k1; exact DataW.trod_lt m _ _ _ hm
  obtain ⟨ss, w1⟩ : ∃ ss, IsStrs W a1 len1 cap1 ss := by
    obtain ⟨fuel, hf⟩ := h1
    rcases open_strings Yba.underlying45 Yba.underlying9 (by kernel_rfl) hf with ⟨hcs, _⟩ | ⟨x, l, c, ss, hcs, _, hl, hm, hz, _, hcell, hws⟩
    · simp [Value.cells] at hcs
      obtain ⟨rfl, rfl, rfl⟩ := hcs
      exact ⟨[], .inl ⟨rfl, rfl, rfl, rfl⟩⟩
    · simp [Value.cells] at hcs
      obtain ⟨rfl, rfl, rfl⟩ := hcs
      exact ⟨ss, .inr ⟨_, rfl, hl, hm, by simpa using hz, hcell⟩⟩
  obtain ⟨a2, rfl, rfl, rfl⟩ := open_bool Yba.underlying4 (hval 2 4 v2 rfl rfl) h2
  clear hA0 hval0
  refine (walk a0 a1 len1 cap1 ss a2 W w1).mono fun e W' ⟨he, bel⟩ => ?_
  subst he
  exact ⟨_, rfl, _, _, _, [], _, [], hW', trodAll_mk1 (shut_bool Yba.underlying4 _), (trodAll_cons_mk (shut_int Yba.underlying22 w0) (trodAll_cons_mk (Below.trod laidOut (by kernel_rfl) (of_decide_eq_true (by kernel_rfl)) k1 bel lt1) (trodAll_cons_mk (shut_bool Yba.underlying4 _) trodAll_mk0))), rfl, bel.frame _, fun h => by cases h⟩

theorem over : Rows.lawS2896BKeepsRow.holds Yba.pinned (OpenSpec.ofChange Rows.lawS2896BKeepsSpec) :=
  OpenClaim.holds_of_wide 4 Yba.f4 rfl rfl rfl rfl rfl rfl rfl ⟨rfl, rfl, rfl, rfl, rfl⟩ rfl rfl rfl rfl rfl (by kernel_rfl) Yba.func4 (by kernel_rfl)
    (of_decide_eq_true (by kernel_rfl)) (by unfold Func.isWrapper; first | (rw [if_pos (by decide +kernel)]; kernel_rfl) | (rw [if_neg (by decide +kernel)]; exact ⟨rfl, rfl⟩))
    (fun os started H enc _ => lifted os started H enc)
end Go.Proofs.Ybulkbgyk.lawS2896BKeeps

namespace Go.Proofs.Ybulkbgyk
theorem lawS2896BKeeps_holds : Rows.LawS2896BKeepsSaid :=
  lawS2896BKeeps.over
end Go.Proofs.Ybulkbgyk
