/-
  The row of LawS2896AResolve, proved, and its tied card. The tie is given (YbulkbgykDoorTie.lean).
-/
import Derived.Test.YbulkbgykDoorTie
import Derived.Test.YbulkbgykDoorCards
import Derived.Test.YbulkbgykDoorLaid
import Derived.Test.YbulkbgykDoorRes
import Derived.WalkKit
import Derived.ProofKit
import Derived.OpenShut
import Derived.ShutString
import Derived.ChangeSame
import Derived.ChangeVars
import Derived.ChangeOld
import Derived.JoinedOf
import Derived.RowKit
import Derived.RowKitTokens
import Derived.SevenTiedAt
import Derived.SliceStrings
import Derived.Deep.Grids
namespace Go.Proofs.YbulkbgykDoor.lawS2896AResolve
open Go.ChangeShapes Go.WideShapes Go.ChangeAt Go.RowKit
open Go.ChangeMaps (open_string shut_string)
open Go.Deep
set_option linter.unusedVariables false

theorem laidOut : laidOutB Ybad.prog = true := by kernel_rfl

/-- the variables' names, taken from the given specification -/
def nHost : String := Rows.lawS2896AResolveSpec.vars.getD 0 ""
def nFound : String := Rows.lawS2896AResolveSpec.vars.getD 1 ""
def nOpen : String := Rows.lawS2896AResolveSpec.vars.getD 2 ""
theorem gHost : Ybad.prog.globalNamed nHost = some 0 := by kernel_rfl
theorem gFound : Ybad.prog.globalNamed nFound = some 1 := by kernel_rfl
theorem gOpen : Ybad.prog.globalNamed nOpen = some 2 := by kernel_rfl
theorem tHost : (Ybad.prog.globals[0]?).map (·.type) = some 68 := by kernel_rfl
theorem tFound : (Ybad.prog.globals[1]?).map (·.type) = some 68 := by kernel_rfl
theorem tOpen : (Ybad.prog.globals[2]?).map (·.type) = some 68 := by kernel_rfl

abbrev laidR : List (String × DataW Unit) := Rows.lawS2896AResolveRow.laid
/-- The door's own heap meets the condition. -/
theorem door_met (os : Os) (args : Array Value) : laidMetH Ybad.prog laidR ((World.doorLaid Ybad.prog 104 os).forCall (fun _ _ => 0) ⟨#[], args, []⟩).memory :=
  laidMetH_of_parts3 (fuel := 8) (laidMet_of_run' 8 (by kernel_rfl) (by kernel_rfl)) (by kernel_rfl) (by kernel_rfl)

theorem of_laid {W : World} (h : laidMetH Ybad.prog laidR W) : ∃ a0 a1 a2 : Addr,
    W.var? Ybad.prog nHost = some #[.iface 106 (.pointer (some a0))] ∧ W.var? Ybad.prog nFound = some #[.iface 106 (.pointer (some a1))] ∧ W.var? Ybad.prog nOpen = some #[.iface 106 (.pointer (some a2))] := by
  rw [MakeChecks.laidMetH_plain _ _ _ (by kernel_rfl)] at h
  obtain ⟨a0, s0, hv0, _⟩ := laid_sentinel (n := nHost) (nm := eName) (tp := 106) h gHost tHost Ybad.underlying68 row106 Ybad.underlying106 Ybad.underlying126 rfl rfl Ybad.underlying9 cells126 cells9
  obtain ⟨a1, s1, hv1, _⟩ := laid_sentinel (n := nFound) (nm := eName) (tp := 106) (laidMet.tail h) gFound tFound Ybad.underlying68 row106 Ybad.underlying106 Ybad.underlying126 rfl rfl Ybad.underlying9 cells126 cells9
  obtain ⟨a2, s2, hv2, _⟩ := laid_sentinel (n := nOpen) (nm := eName) (tp := 106) (laidMet.tail (laidMet.tail h)) gOpen tOpen Ybad.underlying68 row106 Ybad.underlying106 Ybad.underlying126 rfl rfl Ybad.underlying9 cells126 cells9
  exact ⟨a0, a1, a2, hv0, hv1, hv2⟩

theorem vars_read3 {H : Type} (enc : TypeId × Value → H) {W : World} {x0 x1 x2 : Value} (h0 : W.var? Ybad.prog nHost = some #[x0]) (h1 : W.var? Ybad.prog nFound = some #[x1]) (h2 : W.var? Ybad.prog nOpen = some #[x2]) (i0 : IsIface x0) (i1 : IsIface x1) (i2 : IsIface x2) (sp : Nat → Bool) :
    DataW.TrodVars enc Ybad.prog W sp [nHost, nFound, nOpen] [tok enc x0, tok enc x1, tok enc x2] [.cell 0 0, .cell 1 0, .cell 2 0] :=
  ⟨0, 68, #[x0], 1, [], [.cell 1 0, .cell 2 0], gHost, tHost, h0, trod_held Ybad.underlying68 i0 0, ⟨1, 68, #[x1], 1, [], [.cell 2 0], gFound, tFound, h1, trod_held Ybad.underlying68 i1 0, ⟨2, 68, #[x2], 1, [], [], gOpen, tOpen, h2, trod_held Ybad.underlying68 i2 0, rfl, rfl⟩, rfl⟩, rfl⟩

set_option maxRecDepth 100000 in
theorem lifted (os : Os) (started : os.Started) (H : Type) (enc : TypeId × Value → H) :
    ReturnsInHanded {} Ybad.checked os 3 .any (fun w args => (Rows.lawS2896AResolveSpec.pre enc Ybad.prog Ybad.f3 [] false w args ∧ laidMetH Ybad.prog laidR w) ∧ sizedMet enc Ybad.prog Ybad.f3 (OpenSpec.ofChange Rows.lawS2896AResolveSpec) false w args)
      (Rows.lawS2896AResolveSpec.post enc Ybad.prog Ybad.f3 false true false false) := by
  refine returnsInHanded_of_change_and (C := Ybad.checked) (X := fun w _ => laidMetH Ybad.prog laidR w) (fun _ _ _ hh h => h.of_heap hh) own started (by kernel_rfl) Ybad.func3
    (ChangeSpec.witness_shaped (enc := enc) (C := Ybad.checked) (os := os) (X := fun w _ => laidMetH Ybad.prog laidR w) false (World.doorLaid Ybad.prog 104 os) #[.slice none 0 0, .slice none 0 0, .string ByteArray.empty, .int .u16 0, .int .u8 0, .int .u8 0] 8 rfl (World.shaped_of_RefB (by kernel_rfl) (by kernel_rfl)) (by kernel_rfl) (by kernel_rfl) (by kernel_rfl) (door_met os _)) ?_
  intro W base args ds gs before hval0 hW _ _ hL _
  have hval : ∀ (j : Nat) t v, Ybad.f3.params[j]? = some t → args[j]? = some v → Value.okWide Ybad.prog W .any base t v := hval0
  have hW' := hW
  obtain ⟨p, q, hA0, hV0, rfl, hfz, hnd⟩ := hW
  have hA : DataW.TrodAll enc Ybad.prog W 0 (fun _ => true) true Ybad.f3.params.toList args.toList ds p := hA0
  have hV : DataW.TrodVars enc Ybad.prog W (fun _ => true) [nHost, nFound, nOpen] gs q := hV0
  rw [Ybad.params3] at hA hval
  obtain ⟨v0, vs0, d0, ds0, p0, q0, hargs, rfl, rfl, h0, r0⟩ := trodAll_cons hA
  obtain ⟨v1, vs1, d1, ds1, p1, q1, rfl, rfl, rfl, h1, r1⟩ := trodAll_cons r0
  obtain ⟨v2, vs2, d2, ds2, p2, q2, rfl, rfl, rfl, h2, r2⟩ := trodAll_cons r1
  obtain ⟨v3, vs3, d3, ds3, p3, q3, rfl, rfl, rfl, h3, r3⟩ := trodAll_cons r2
  obtain ⟨v4, vs4, d4, ds4, p4, q4, rfl, rfl, rfl, h4, r4⟩ := trodAll_cons r3
  obtain ⟨v5, vs5, d5, ds5, p5, q5, rfl, rfl, rfl, h5, r5⟩ := trodAll_cons r4
  obtain ⟨rfl, rfl, rfl⟩ := trodAll_nil r5
  obtain rfl : args = #[v0, v1, v2, v3, v4, v5] := by cases args; simp_all
  obtain ⟨a0, len0, cap0, rfl⟩ := okWide_slice Ybad.underlying22 (hval 0 22 v0 rfl rfl)
  have k0 := h0
  have lt0 : ∀ x ∈ p0, x.block < W.heap.size := by obtain ⟨m, hm⟩ := k0; exact DataW.trod_lt m _ _ _ hm
  obtain ⟨ss, hm0, hss⟩ : ∃ ss, len0 ≤ maxLen ∧ Strs W a0 len0 ss := by
    obtain ⟨fuel, hf⟩ := h0
    rcases open_strings Ybad.underlying22 Ybad.underlying9 cells9 hf with ⟨hcs, _⟩ | ⟨x, l, c, ss, hcs, _, hl, hm, hz, _, hcell, hws⟩
    · simp [Value.cells] at hcs
      obtain ⟨rfl, rfl, rfl⟩ := hcs
      exact ⟨[], by unfold maxLen; omega, Nat.zero_le _, by simp, .inl rfl⟩
    · simp [Value.cells] at hcs
      obtain ⟨rfl, rfl, rfl⟩ := hcs
      simp only [if_true] at hz
      refine ⟨ss, by omega, by omega, hws, ?_⟩
      by_cases e0 : len0 = 0
      · exact .inl e0
      · right
        obtain ⟨b, off, spot⟩ := x
        have hspot : spot = none := by simpa [Addr.add] using World.cell?_spot (hcell 0 (by omega))
        subst hspot
        exact ⟨b, off, rfl, fun i hi => by rw [← add_plain]; exact hcell i (by omega)⟩
  obtain ⟨a1, len1, cap1, rfl⟩ := okWide_slice Ybad.underlying23 (hval 1 23 v1 rfl rfl)
  have k1 := h1
  have lt1 : ∀ x ∈ p1, x.block < W.heap.size := by obtain ⟨m, hm⟩ := k1; exact DataW.trod_lt m _ _ _ hm
  obtain ⟨bs, hm1, hbs⟩ : ∃ bs, len1 ≤ maxLen ∧ Bools W a1 len1 bs := by
    obtain ⟨fuel, hf⟩ := h1
    rcases open_bools Ybad.underlying23 Ybad.underlying4 (by kernel_rfl) hf with ⟨hcs, _⟩ | ⟨x, l, c, B, hcs, _, hl, hm, _, hcell⟩
    · simp [Value.cells] at hcs
      obtain ⟨rfl, rfl, rfl⟩ := hcs
      exact ⟨[], by unfold maxLen; omega, .inl rfl⟩
    · simp [Value.cells] at hcs
      obtain ⟨rfl, rfl, rfl⟩ := hcs
      refine ⟨(List.range len1).map B, by omega, ?_⟩
      by_cases e0 : len1 = 0
      · exact .inl e0
      · right
        obtain ⟨b, off, spot⟩ := x
        have hspot : spot = none := by simpa [Addr.add] using World.cell?_spot (hcell 0 (by omega))
        subst hspot
        refine ⟨b, off, rfl, fun i hi => ?_⟩
        have eB : ((List.range len1).map B).getD i false = B i := by simp [List.getD, hi]
        rw [eB, ← add_plain]
        exact hcell i (by omega)
  obtain ⟨qs, rfl, rfl, rfl, w2⟩ := open_string Ybad.underlying9 (hval 2 9 v2 rfl rfl) h2
  obtain ⟨x3, rfl, rfl, rfl, w3⟩ := open_int Ybad.underlying24 (hval 3 24 v3 rfl rfl) h3
  obtain ⟨x4, rfl, rfl, rfl, w4⟩ := open_int Ybad.underlying5 (hval 4 5 v4 rfl rfl) h4
  obtain ⟨x5, rfl, rfl, rfl, w5⟩ := open_int Ybad.underlying5 (hval 5 5 v5 rfl rfl) h5
  have b3 := bounds_u16 w3
  have b4 := bounds_u8 w4
  have b5 := bounds_u8 w5
  obtain ⟨n3, rfl⟩ := Int.eq_ofNat_of_zero_le b3.1
  obtain ⟨n4, rfl⟩ := Int.eq_ofNat_of_zero_le b4.1
  obtain ⟨n5, rfl⟩ := Int.eq_ofNat_of_zero_le b5.1
  obtain ⟨aH, aF, aO, hv0, hv1, hv2⟩ := of_laid hL
  obtain ⟨rfl, rfl⟩ := hV.unique (vars_read3 enc hv0 hv1 hv2 trivial trivial trivial _)
  clear hA0 hV0 hval0
  have hg0 : W.cell? ⟨0, 0, none⟩ = some (.iface 106 (.pointer (some aH))) := by simpa using World.var?_cell gHost hv0 0
  have hg1 : W.cell? ⟨1, 0, none⟩ = some (.iface 106 (.pointer (some aF))) := by simpa using World.var?_cell gFound hv1 0
  have hg2 : W.cell? ⟨2, 0, none⟩ = some (.iface 106 (.pointer (some aO))) := by simpa using World.var?_cell gOpen hv2 0
  have hlt : 2 < W.heap.size := World.block_lt_of_cell? _ _ hg2
  have hwalk : Calls Ybad.prog 3 #[.slice a0 len0 cap0, .slice a1 len1 cap1, .string qs, .int .u16 n3, .int .u8 n4, .int .u8 n5] W fun e w' => e = .returned (.bool true) ∧ Below W.heap.size W w' := by
    by_cases hle : len0 ≤ 1024
    · exact resolve_walk a0 len0 cap0 ss a1 len1 cap1 bs qs n3 n4 n5 aH aF aO W hle hss hbs hm1 w2 (by omega) (by omega) (by omega) hlt hg0 hg1 hg2
    · exact resolve_many a0 len0 cap0 a1 len1 cap1 qs n3 n4 n5 W (by omega) hm0
  refine hwalk.mono fun e W' ⟨he, bel⟩ => ?_
  subst he
  have e1 : ∀ x0 x1 x2 x3 x4 x5 g0 g1 g2, Rows.lawS2896AResolveSpec.fn H ([x0, x1, x2, x3, x4, x5] ++ [g0, g1, g2]) = { results := [.lit (.bool true)], args := [x0, x1, x2, x3, x4, x5], vars := [g0, g1, g2] } := fun _ _ _ _ _ _ _ _ _ => rfl
  refine ⟨_, rfl, _, _, _, [], p0 ++ (p1 ++ ([] ++ ([] ++ ([] ++ ([] ++ []))))), [.cell 0 0, .cell 1 0, .cell 2 0], hW', ?_, ?_, ?_, bel.frame _, fun h => by cases h⟩
  · rw [e1]; exact trodAll_mk1 (shut_bool Ybad.underlying4 true)
  · rw [e1]
    exact (trodAll_cons_mk (Below.trod laidOut (by kernel_rfl) (of_decide_eq_true (by kernel_rfl)) k0 bel lt0) (trodAll_cons_mk (Below.trod laidOut (by kernel_rfl) (of_decide_eq_true (by kernel_rfl)) k1 bel lt1) (trodAll_cons_mk (shut_string Ybad.underlying9 w2) (trodAll_cons_mk (shut_int Ybad.underlying24 w3) (trodAll_cons_mk (shut_int Ybad.underlying5 w4) (trodAll_cons_mk (shut_int Ybad.underlying5 w5) trodAll_mk0))))))
  · rw [e1]; exact vars_read3 enc (var?_below bel gHost (by omega) hv0) (var?_below bel gFound (by omega) hv1) (var?_below bel gOpen (by omega) hv2) trivial trivial trivial _

theorem over : Rows.LawS2896AResolveSaid :=
  OpenClaim.holds_of_wide 3 Ybad.f3 rfl rfl rfl rfl rfl rfl rfl ⟨rfl, rfl, rfl, rfl, rfl⟩ rfl rfl rfl rfl rfl (by kernel_rfl) Ybad.func3 (by kernel_rfl)
    (of_decide_eq_true (by kernel_rfl)) (by unfold Func.isWrapper; first | (rw [if_pos (by decide +kernel)]; kernel_rfl) | (rw [if_neg (by decide +kernel)]; exact ⟨rfl, rfl⟩))
    (fun os started H enc _ => lifted os started H enc)

theorem card : Rows.LawS2896AResolveCardSaid :=
  Claim7.holds_tied_plain_at .later [] [.called, .sentinel, .sentinel] true Rows.lawS2896AResolveCard.stood.harness true
    over (fun _ h => by cases h) (by kernel_rfl) (fun _ h => by cases h) lawS2896AResolve_row_tie rfl ⟨rfl, rfl⟩ (by kernel_rfl) rfl
    (fun f fn hf hfn => by
      obtain rfl : f = 3 := Option.some.inj ((show Ybad.prog.funcNamed Rows.lawS2896AResolveRow.func = some 3 by kernel_rfl).symm.trans hf) |>.symm
      obtain rfl : fn = Ybad.f3 := (Option.some.inj (Ybad.func3.symm.trans hfn)).symm
      exact ⟨by kernel_rfl, fun j t ht => by
        rw [Ybad.params3] at ht
        have hm : t ∈ [22, 23, 9, 24, 5, 5] := by simpa using Array.mem_of_getElem? ht
        have hall : ([22, 23, 9, 24, 5, 5].all fun u => !Ybad.prog.wantsStandIn u) = true := by kernel_rfl
        exact (show Ybad.prog.wantsStandIn t = false by simpa using List.all_eq_true.1 hall t hm)⟩)
    (by kernel_rfl)
end Go.Proofs.YbulkbgykDoor.lawS2896AResolve

namespace Go.Proofs.YbulkbgykDoor
theorem lawS2896AResolveCard_holds : Rows.LawS2896AResolveCardSaid :=
  lawS2896AResolve.card
end Go.Proofs.YbulkbgykDoor
