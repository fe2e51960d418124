/-
  The row of LawS2896CRoom, proved, and its tied card. The tie is given (YbulkbgykDoorTie.lean).
-/
import Derived.Test.YbulkbgykDoorTie
import Derived.Test.YbulkbgykDoorCards
import Derived.Test.YbulkbgykDoorLaid
import Derived.Test.YbulkbgykDoorRoomWalks
import Derived.WalkKit
import Derived.ProofKit
import Derived.OpenShut
import Derived.ChangeSame
import Derived.ChangeVars
import Derived.JoinedOf
import Derived.RowKit
import Derived.RowKitTokens
import Derived.SevenTiedAt
namespace Go.Proofs.YbulkbgykDoor.lawS2896CRoom
open Go.ChangeShapes Go.WideShapes Go.ChangeAt Go.RowKit
set_option linter.unusedVariables false

set_option maxRecDepth 100000 in
theorem lifted (os : Os) (started : os.Started) (H : Type) (enc : TypeId × Value → H) :
    ReturnsInHanded {} Ybad.checked os 5 .any (fun w args => (Rows.lawS2896CRoomSpec.pre enc Ybad.prog Ybad.f5 [] false w args ∧ laidMetH Ybad.prog laidD w) ∧ sizedMet enc Ybad.prog Ybad.f5 (OpenSpec.ofChange Rows.lawS2896CRoomSpec) false w args)
      (Rows.lawS2896CRoomSpec.post enc Ybad.prog Ybad.f5 false true false false) := by
  refine returnsInHanded_of_change_and (C := Ybad.checked) (X := fun w _ => laidMetH Ybad.prog laidD w) (fun _ _ _ hh h => h.of_heap hh) own started (by kernel_rfl) Ybad.func5
    (ChangeSpec.witness_shaped (enc := enc) (C := Ybad.checked) (os := os) (X := fun w _ => laidMetH Ybad.prog laidD w) false (World.doorLaid Ybad.prog 104 os) #[.int .i64 0, .int .u16 0] 8 rfl (World.shaped_of_RefB (by kernel_rfl) (by kernel_rfl)) (by kernel_rfl) (by kernel_rfl) (by kernel_rfl) (door_met os _)) ?_
  intro W base args ds gs before hval0 hW _ _ hL _
  have hval : ∀ (j : Nat) t v, Ybad.f5.params[j]? = some t → args[j]? = some v → Value.okWide Ybad.prog W .any base t v := hval0
  have hW' := hW
  obtain ⟨p, q, hA0, hV0, rfl, hfz, hnd⟩ := hW
  have hA : DataW.TrodAll enc Ybad.prog W 0 (fun _ => true) true Ybad.f5.params.toList args.toList ds p := hA0
  have hV : DataW.TrodVars enc Ybad.prog W (fun _ => true) [nMax, nNil] gs q := hV0
  rw [Ybad.params5] at hA hval
  obtain ⟨v0, vs0, d0, ds0, p0, q0, hargs, rfl, rfl, h0, r0⟩ := trodAll_cons hA
  obtain ⟨v1, vs1, d1, ds1, p1, q1, rfl, rfl, rfl, h1, r1⟩ := trodAll_cons r0
  obtain ⟨rfl, rfl, rfl⟩ := trodAll_nil r1
  obtain rfl : args = #[v0, v1] := by cases args; simp_all
  obtain ⟨m, rfl, rfl, rfl, w0⟩ := open_int Ybad.underlying3 (hval 0 3 v0 rfl rfl) h0
  obtain ⟨n0, rfl, rfl, rfl, w1⟩ := open_int Ybad.underlying24 (hval 1 24 v1 rfl rfl) h1
  have b0 := bounds_i64 w0
  have b1 := bounds_u16 w1
  obtain ⟨n, rfl⟩ := Int.eq_ofNat_of_zero_le b1.1
  obtain ⟨a0, a1, hv0, hv1⟩ := of_laid hL
  obtain ⟨rfl, rfl⟩ := hV.unique (vars_read2 enc gMax tMax Ybad.underlying68 hv0 trivial gNil tNil Ybad.underlying68 hv1 trivial _)
  clear hA0 hV0 hval0
  have hgM : W.cell? ⟨4, 0, none⟩ = some (.iface 106 (.pointer (some a0))) := by simpa using World.var?_cell gMax hv0 0
  have hgN : W.cell? ⟨3, 0, none⟩ = some (.iface 106 (.pointer (some a1))) := by simpa using World.var?_cell gNil hv1 0
  have hlt : 4 < W.heap.size := World.block_lt_of_cell? _ _ hgM
  have e1 : Rows.lawS2896CRoomSpec.fn H ([.lit (.int .i64 m), .lit (.int .u16 n)] ++ [tok enc (.iface 106 (.pointer (some a0))), tok enc (.iface 106 (.pointer (some a1)))]) = { results := [.lit (.bool true)], args := [.lit (.int .i64 m), .lit (.int .u16 n)], vars := [tok enc (.iface 106 (.pointer (some a0))), tok enc (.iface 106 (.pointer (some a1)))] } := rfl
  have fin : ∀ W' : World, Below W.heap.size W W' → Rows.lawS2896CRoomSpec.post enc Ybad.prog Ybad.f5 false true false false W #[.int .i64 m, .int .u16 n] (.bool true) W' := fun W' bel => by
    refine ⟨_, _, _, [], [], [.cell 4 0, .cell 3 0], hW', ?_, ?_, ?_, bel.frame _, fun h => by cases h⟩
    · rw [e1]; exact trodAll_mk1 (shut_bool Ybad.underlying4 true)
    · rw [e1]; exact (trodAll_cons_mk (shut_int Ybad.underlying3 w0) (trodAll_cons_mk (shut_int Ybad.underlying24 w1) trodAll_mk0))
    · rw [e1]; exact vars_read2 enc gMax tMax Ybad.underlying68 (var?_below bel gMax (by omega) hv0) trivial gNil tNil Ybad.underlying68 (var?_below bel gNil (by omega) hv1) trivial _
  refine (croom_walk m n a0 W (by omega) (by omega) hlt hgM).mono fun e W' ⟨he, bel⟩ => ?_
  subst he
  exact ⟨_, rfl, fin W' bel⟩

theorem over : Rows.LawS2896CRoomSaid :=
  OpenClaim.holds_of_wide 5 Ybad.f5 rfl rfl rfl rfl rfl rfl rfl ⟨rfl, rfl, rfl, rfl, rfl⟩ rfl rfl rfl rfl rfl (by kernel_rfl) Ybad.func5 (by kernel_rfl)
    (of_decide_eq_true (by kernel_rfl)) (by unfold Func.isWrapper; first | (rw [if_pos (by decide +kernel)]; kernel_rfl) | (rw [if_neg (by decide +kernel)]; exact ⟨rfl, rfl⟩))
    (fun os started H enc _ => lifted os started H enc)

theorem card : Rows.LawS2896CRoomCardSaid :=
  Claim7.holds_tied_plain_at .later [] [.sentinel, .sentinel] true Rows.lawS2896CRoomCard.stood.harness true
    over (fun _ h => by cases h) (by kernel_rfl) (fun _ h => by cases h) lawS2896CRoom_row_tie rfl ⟨rfl, rfl⟩ (by kernel_rfl) rfl
    (fun f fn hf hfn => by
      obtain rfl : f = 5 := Option.some.inj ((show Ybad.prog.funcNamed Rows.lawS2896CRoomRow.func = some 5 by kernel_rfl).symm.trans hf) |>.symm
      obtain rfl : fn = Ybad.f5 := (Option.some.inj (Ybad.func5.symm.trans hfn)).symm
      exact ⟨by kernel_rfl, fun j t ht => by
        rw [Ybad.params5] at ht
        have hm : t ∈ [3, 24] := by simpa using Array.mem_of_getElem? ht
        have hall : ([3, 24].all fun u => !Ybad.prog.wantsStandIn u) = true := by kernel_rfl
        exact (show Ybad.prog.wantsStandIn t = false by simpa using List.all_eq_true.1 hall t hm)⟩)
    (by kernel_rfl)
end Go.Proofs.YbulkbgykDoor.lawS2896CRoom

namespace Go.Proofs.YbulkbgykDoor
theorem lawS2896CRoomCard_holds : Rows.LawS2896CRoomCardSaid :=
  lawS2896CRoom.card
end Go.Proofs.YbulkbgykDoor
