/- The walk of LawS2896AResolve. -/
import Derived.Test.YbulkbgykDoorInv
import Derived.Carry
import Derived.Deep.OwnRows
import Derived.Deep.DeepCutAuto
import Derived.Deep.DeepMust
import Derived.LaidEqlPtr
namespace Go.Proofs.YbulkbgykDoor
open Go.ChangeShapes Go.WideShapes Go.ChangeAt Go.RowKit
set_option linter.unusedVariables false

theorem toList_ne {a b : ByteArray} (h : a ≠ b) : (a.toList == b.toList) = false := by
  rw [ByteArray.toList_eq, ByteArray.toList_eq]
  refine beq_eq_false_iff_ne.2 fun e => h ?_
  cases a; cases b
  simp at e
  rw [e]
theorem asserts (a : Addr) (w : World) : (Instr.typeAssert (.iface 71 (.pointer (some a))) 68 71 true).run Ybad.prog w = .ok (.tuple #[.pointer (some a), .bool true]) w := by kernel_rfl

theorem info61 : (Ybad.prog.info? 61).isSome = true := by kernel_rfl
theorem ptreql (a : Addr) (w : World) : (binOp .eql 27 (.pointer (some a)) (.pointer (some a))).run Ybad.prog w = .ok (.bool true) w := by
  obtain ⟨j, hj⟩ := Option.isSome_iff_exists.1 info61
  exact run_eql_ptr_same w a Ybad.underlying27 hj

theorem closed_calls (co : Option Addr) (clen ccap : Nat) (bs : List Bool) (i : Nat) (w : World) (hm : clen ≤ maxLen) (h : Bools w co clen bs) :
    Calls Ybad.prog 7 #[.slice co clen ccap, .int .i64 i] w fun e w' => e = .returned (.bool (closedAt clen bs i)) ∧ w' = w := by
  unfold maxLen at hm
  by_cases hi : i < clen
  · rcases h with h | ⟨b, off, rfl, hc⟩
    · omega
    · have hci := hc i hi
      have e1 : closedAt clen bs i = bs.getD i false := by simp [closedAt, hi]
      rw [e1]
      generalize bs.getD i false = x at hci
      have h1 : (i : Int) < (clen : Int) := by omega
      clear hc e1
      go_enter Ybad.func7, Ybad.ntmps7
      go_wp2
      go_ret
      exact ⟨rfl, rfl⟩
  · have e1 : closedAt clen bs i = false := by simp [closedAt, hi]
    rw [e1]
    have h1 : ¬ (i : Int) < (clen : Int) := by omega
    clear h e1
    go_enter Ybad.func7, Ybad.ntmps7
    go_wp2
    go_ret
    exact ⟨rfl, rfl⟩

/-- the index that the law's own search comes to -/
def idxI : Option Nat → Int
  | none => -1
  | some j => j

set_option maxRecDepth 100000 in
set_option maxHeartbeats 4000000 in
theorem resolve_walk (ao : Option Addr) (len cap : Nat) (ss : List ByteArray) (co : Option Addr) (clen ccap : Nat) (bs : List Bool) (query : ByteArray) (pick mode depth : Nat) (aH aF aO : Addr) (w : World)
    (hlen : len ≤ 1024) (hss : Strs w ao len ss) (hbs : Bools w co clen bs) (hcl : clen ≤ maxLen) (hqu : query.size ≤ maxLen) (hpick : pick ≤ 65535) (hmode : mode ≤ 255) (hdepth : depth ≤ 255) (hlt : 2 < w.heap.size)
    (hg0 : w.cell? ⟨0, 0, none⟩ = some (.iface 106 (.pointer (some aH)))) (hg1 : w.cell? ⟨1, 0, none⟩ = some (.iface 106 (.pointer (some aF)))) (hg2 : w.cell? ⟨2, 0, none⟩ = some (.iface 106 (.pointer (some aO)))) :
    Calls Ybad.prog 3 #[.slice ao len cap, .slice co clen ccap, .string query, .int .u16 pick, .int .u8 mode, .int .u8 depth] w fun e w' => e = .returned (.bool true) ∧ Below w.heap.size w w' := by
  have hmk := fun w => run_make_row' (P := Ybad.prog) 62 27 (.pointer none) 8 Ybad.underlying62 (by kernel_rfl) rfl .i64 .i64 len (by omega) (by omega) w
  have hmm := @run_makeMap Ybad.prog
  have HS : Hid (Strs w ao len ss) := hss
  have HB : Hid (Bools w co clen bs) := hbs
  have HG : Hid (w.cell? ⟨0, 0, none⟩ = some (.iface 106 (.pointer (some aH))) ∧ w.cell? ⟨1, 0, none⟩ = some (.iface 106 (.pointer (some aF))) ∧ w.cell? ⟨2, 0, none⟩ = some (.iface 106 (.pointer (some aO)))) := ⟨hg0, hg1, hg2⟩
  clear hss hbs hg0 hg1 hg2
  go_enter Ybad.func3, Ybad.ntmps3
  go_upto_region 4 with (fail)
  go_cut [43] (fun s43 wx => wx = w ∧ ∃ c : Bool, s43 = .bool c ∧ (c = true → 0 < len))
  case first =>
    by_cases h0 : 0 < len
    · have h0' : (0 : Int) < (len : Int) := by omega
      go_wp2
      go_meet
      case rel => exact ⟨rfl, _, rfl, fun _ => h0⟩
    · have h0' : ¬ (0 : Int) < (len : Int) := by omega
      go_wp2
      go_meet
      case rel => exact ⟨rfl, _, rfl, fun h => by cases h⟩
  case rest =>
  obtain ⟨rfl, c, rfl, hc0⟩ := hcut
  have HC0 : Hid (c = true → 0 < len) := hc0
  clear hc0
  go_upto_if 43 with (fail)
  go_cut [13] (fun s13 wx => wx = wc ∧ ∃ q : ByteArray, s13 = .string q ∧ q.size ≤ maxLen)
  case first =>
    cases c
    · go_wp2
      go_meet
      case rel => exact ⟨rfl, _, rfl, hqu⟩
    · have hp2 := HC0.out rfl
      obtain ⟨h1, h2, ⟨h3⟩ | ⟨b, off, rfl, hcell⟩⟩ := HS.out
      · omega
      have hmod := Nat.mod_lt (pick / 2) hp2
      have hc := hcell (pick / 2 % len) hmod
      have hqs : (ss.getD (pick / 2 % len) ByteArray.empty).size ≤ maxLen := by
        have hl : pick / 2 % len < ss.length := by omega
        rw [show ss.getD (pick / 2 % len) ByteArray.empty = ss[pick / 2 % len] by simp [List.getD, hl]]
        exact h2 _ (List.getElem_mem hl)
      have hj : (pick : Int) / 2 % (len : Int) = ((pick / 2 % len : Nat) : Int) := by simp
      generalize ss.getD (pick / 2 % len) ByteArray.empty = q at hc hqs
      generalize pick / 2 % len = j at hj hc hmod
      have hjl : (j : Int) < (len : Int) := by omega
      have hl0 : ¬ (len : Int) = 0 := by omega
      clear h1 h2 hcell hp2
      go_wp2
      go_meet
      case rel => exact ⟨rfl, _, rfl, hqs⟩
  case rest =>
  obtain ⟨rfl, q, rfl, hq⟩ := hcut
  clear HC0
  go_wp2
  go_loopw [17] (fun i wr => ∃ k : Nat, k ≤ len ∧ i = .int .i64 k ∧ Inv wc wr len ss clen bs q k) (fun i _ => len - (intOf i).toNat)
  case atStart => exact ⟨0, Nat.zero_le _, rfl, Inv.start wc len ss clen bs q⟩
  case round =>
    obtain ⟨k, hk, rfl, hI⟩ := hrel
    clear hmk hmm
    by_cases hlt' : k < len
    · obtain ⟨hS1, hS2, ⟨h3⟩ | ⟨b, off, rfl, hcell⟩⟩ := HS.out
      · omega
      have hck := hcell k hlt'
      have hbl := World.block_lt_of_cell? _ _ hck
      simp only at hbl
      have cs := (hI.bel.cell (p := ⟨b, off + k, none⟩) hbl).trans hck
      have ltb : b < wr.heap.size := Nat.lt_of_lt_of_le hbl hI.bel.size
      generalize hsk : ss.getD k ByteArray.empty = sk at cs
      have HK : Hid (ss.getD k ByteArray.empty = sk) := hsk
      have ce : wr.cell? ⟨wc.heap.size + 1, 3, none⟩ = some (.map (some wc.heap.size)) := by rw [cell_of_row _ _ _ _ _ _ hI.env]; rfl
      obtain ⟨v5, c5⟩ := Option.isSome_iff_exists.1 (hI.row k hlt').1
      have f5 := (hI.row k hlt').2
      have lt1 : wc.heap.size + 1 < wr.heap.size := by have := hI.lt; omega
      have lt5 : wc.heap.size + 1 + 1 + 1 + 1 + 1 < wr.heap.size := by have := hI.lt; omega
      have lt1' : wc.heap.size + 1 < wr.heap.size + 1 := by omega
      have ltb' : b < wr.heap.size + 1 := by omega
      have hbits : bits .or .u64 8 1 = 9 := by decide
      have HB2 : Hid (Bools wr co clen bs) := HB.out.below hI.bel
      clear hck hsk hcell
      have hsz : (ss.getD k ByteArray.empty).size ≤ maxLen := by
        have hl : k < ss.length := by omega
        rw [show ss.getD k ByteArray.empty = ss[k] by simp [List.getD, hl]]
        exact hS2 _ (List.getElem_mem hl)
      obtain ⟨w2, hup, hI2⟩ := hI.step hlt' hlen hsz
      rw [HK.out] at hup
      have HI2 : Hid (Inv wc w2 len ss clen bs q (k + 1)) := hI2
      clear hI2 hsz hS2 hS1
      cases hcb : closedAt clen bs k
      · have hst : stateOf clen bs k = 8 := by simp [stateOf, hcb]
        rw [hst] at hup
        clear hst
        go_wp2_with fail
        refine (closed_calls co clen ccap bs k _ hcl HB2.out).mono ?_
        rw [hcb]
        rintro e w' ⟨rfl, rfl⟩
        clear hcb
        go_wp2
        go_region
        go_wp2
        go_roundw
        case rel => exact ⟨k + 1, by omega, by go_num, HI2.out⟩
        case measure => simp [intOf]; omega
      · have hst : stateOf clen bs k = 9 := by simp [stateOf, hcb]
        rw [hst] at hup
        clear hst
        go_wp2_with fail
        refine (closed_calls co clen ccap bs k _ hcl HB2.out).mono ?_
        rw [hcb]
        rintro e w' ⟨rfl, rfl⟩
        clear hcb
        go_wp2
        go_region
        go_wp2
        go_roundw
        case rel => exact ⟨k + 1, by omega, by go_num, HI2.out⟩
        case measure => simp [intOf]; omega
    · have ek : len = k := by omega
      subst ek
      clear hlt' hk
      have he := erreql
      have hnl := nileql
      have hpe := ptreql
      have hta := asserts
      rcases (show (mode : Int) % 4 = 0 ∨ (mode : Int) % 4 = 1 ∨ (mode : Int) % 4 = 2 ∨ (mode : Int) % 4 = 3 by omega) with hm | hm | hm | hm
      · go_wp2
        go_loopw [21, 22] (fun v i w2 => ∃ n c : Nat, (n : Int) ≤ (depth : Int) % 8 ∧ i = .int .i64 n ∧ v = .pointer (some ⟨c, 0, none⟩) ∧ Inv wc w2 len ss clen bs q len ∧ Chain w2 n c (wc.heap.size + 1 + 1 + 1 + 1) ∧ w2.cell? ⟨c, 1, none⟩ = some (.int .u64 0)) (fun _ i _ => depth % 8 - (intOf i).toNat)
        case atStart => exact ⟨0, _, by omega, rfl, rfl, hI, rfl, hI.rootState⟩
        case round =>
          obtain ⟨n, c, hn, rfl, rfl, hI2, hch, hc1⟩ := hrel
          clear hI
          by_cases hnd : (n : Int) < (depth : Int) % 8
          · have HH : Hid (Inv wc wr len ss clen bs q len ∧ Chain wr n c (wc.heap.size + 1 + 1 + 1 + 1)) := ⟨hI2, hch⟩
            clear hI2 hch
            have hcl := World.block_lt_of_cell? _ _ hc1
            simp only at hcl
            go_wp2
            go_roundw
            case rel => exact ⟨n + 1, wr.heap.size, by omega, by go_num, rfl, HH.out.1.alloc _, HH.out.2.more hcl _ (by go_simp), by go_simp⟩
            case measure => simp [intOf]; omega
          · obtain ⟨D, hown, hhas⟩ := hI2.map
            have hlE := hI2.lt
            rcases hhas with ⟨hl, hat⟩ | ⟨j, hl, N, S, hat, hN1, hS1, hN2, hS2, hrow⟩
            · go_wp2_with fail
              refine (namespace_fails _ q aF (some (wc.heap.size + 1)) _ (ns_missing n c (wc.heap.size + 1 + 1 + 1 + 1) (wc.heap.size + 1) wc.heap.size len D q aF _ hc1 hch hI2.envOf (hI2.envd hown) hq hat (by omega) (hI2.global HG.out.2.1))).mono ?_
              rintro e w' ⟨N, rfl, hN, hgr⟩
              have hb' : Below wc.heap.size wc w' := hI2.bel.grown hgr (by omega) (fun k e => by simp at e; omega)
              have g1' : w'.cell? ⟨1, 0, none⟩ = some (.iface 106 (.pointer (some aF))) := (hb'.cell (p := ⟨1, 0, none⟩) (World.block_lt_of_cell? _ _ HG.out.2.1)).trans HG.out.2.1
              have HW : Hid (Below wc.heap.size wc w') := hb'
              obtain ⟨n0, n1, n2, n3⟩ := hN
              clear hgr hI2 hch hc1 hown hat hb'
              go_wp2
              go_loop [28, 29] (fun v28 v29 => ∃ i : Nat, i ≤ len ∧ v29 = .int .i64 i ∧ v28 = .int .i64 (idxI (lastIdx ss q i))) (fun _ v => len - (intOf v).toNat)
              case atStart => exact ⟨0, Nat.zero_le _, rfl, rfl⟩
              case round =>
                obtain ⟨i, hi, rfl, rfl⟩ := hrel
                by_cases hil : i < len
                · obtain ⟨_, _, ⟨h3⟩ | ⟨b, off, rfl, hcell⟩⟩ := HS.out
                  · omega
                  have hck := hcell i hil
                  have cs := (HW.out.cell (p := ⟨b, off + i, none⟩) (World.block_lt_of_cell? _ _ hck)).trans hck
                  have HL : Hid (lastIdx ss q (i + 1) = if ss.getD i ByteArray.empty = q then some i else lastIdx ss q i) := rfl
                  generalize ss.getD i ByteArray.empty = sk at cs HL
                  clear hck hcell 
                  by_cases heq : sk = q
                  · have hL2 : lastIdx ss q (i + 1) = some i := by rw [HL.out, if_pos heq]
                    have HL2 : Hid (lastIdx ss q (i + 1) = some i) := hL2
                    clear hL2
                    subst heq
                    clear HL
                    go_wp2
                    go_round
                    case rel => exact ⟨i + 1, by omega, by go_num, by rw [HL2.out]; rfl⟩
                    case measure => simp [intOf]; omega
                  · have hL2 : lastIdx ss q (i + 1) = lastIdx ss q i := by rw [HL.out, if_neg heq]
                    have HL2 : Hid (lastIdx ss q (i + 1) = lastIdx ss q i) := hL2
                    have hne : (sk.toList == q.toList) = false := toList_ne heq
                    clear hL2
                    clear HL heq
                    go_wp2
                    go_round
                    case rel => exact ⟨i + 1, by omega, by go_num, by rw [HL2.out]⟩
                    case measure => simp [intOf]; omega
                · have ei : i = len := by omega
                  subst ei
                  have hx : idxI (lastIdx ss q i) = -1 := by rw [hl]; rfl
                  clear hl hil hi
                  go_wp2
                  go_ret
                  exact ⟨rfl, HW.out⟩
            · cases hcb : closedAt clen bs j
              · have hst : stateOf clen bs j = 8 := by simp [stateOf, hcb]
                rw [hst] at hS2
                have hjl : (j : Int) < (len : Int) := by have := lastIdx_lt hl; omega
                go_wp2_with fail
                refine (namespace_fails _ q aO (some (wc.heap.size + 1)) _ (ns_open n c (wc.heap.size + 1 + 1 + 1 + 1) (wc.heap.size + 1) wc.heap.size len D q N S aO _ hc1 hch hI2.envOf (hI2.envd hown) hq hat (by omega) (by omega) (by omega) hN2 hS2 (hI2.global HG.out.2.2))).mono ?_
                rintro e w' ⟨N', rfl, hN, hgr⟩
                have hb' : Below wc.heap.size wc w' := hI2.bel.grown hgr (by omega) (fun k e => by simp at e; omega)
                have g1' : w'.cell? ⟨2, 0, none⟩ = some (.iface 106 (.pointer (some aO))) := (hb'.cell (p := ⟨2, 0, none⟩) (World.block_lt_of_cell? _ _ HG.out.2.2)).trans HG.out.2.2
                have HB3 : Hid (Bools w' co clen bs) := HB.out.below hb'
                have HW : Hid (Below wc.heap.size wc w') := hb'
                have HCB : Hid (closedAt clen bs j = false) := hcb
                obtain ⟨n0, n1, n2, n3⟩ := hN
                clear hgr hI2 hch hc1 hown hat hb' hcb hst hN1 hS1 hN2 hS2 hrow
                go_wp2
                go_loop [28, 29] (fun v28 v29 => ∃ i : Nat, i ≤ len ∧ v29 = .int .i64 i ∧ v28 = .int .i64 (idxI (lastIdx ss q i))) (fun _ v => len - (intOf v).toNat)
                case atStart => exact ⟨0, Nat.zero_le _, rfl, rfl⟩
                case round =>
                  obtain ⟨i, hi, rfl, rfl⟩ := hrel
                  by_cases hil : i < len
                  · obtain ⟨_, _, ⟨h3⟩ | ⟨b, off, rfl, hcell⟩⟩ := HS.out
                    · omega
                    have hck := hcell i hil
                    have cs := (HW.out.cell (p := ⟨b, off + i, none⟩) (World.block_lt_of_cell? _ _ hck)).trans hck
                    have HL : Hid (lastIdx ss q (i + 1) = if ss.getD i ByteArray.empty = q then some i else lastIdx ss q i) := rfl
                    generalize ss.getD i ByteArray.empty = sk at cs HL
                    clear hck hcell 
                    by_cases heq : sk = q
                    · have hL2 : lastIdx ss q (i + 1) = some i := by rw [HL.out, if_pos heq]
                      have HL2 : Hid (lastIdx ss q (i + 1) = some i) := hL2
                      clear hL2
                      subst heq
                      clear HL
                      go_wp2
                      go_round
                      case rel => exact ⟨i + 1, by omega, by go_num, by rw [HL2.out]; rfl⟩
                      case measure => simp [intOf]; omega
                    · have hL2 : lastIdx ss q (i + 1) = lastIdx ss q i := by rw [HL.out, if_neg heq]
                      have HL2 : Hid (lastIdx ss q (i + 1) = lastIdx ss q i) := hL2
                      have hne : (sk.toList == q.toList) = false := toList_ne heq
                      clear hL2
                      clear HL heq
                      go_wp2
                      go_round
                      case rel => exact ⟨i + 1, by omega, by go_num, by rw [HL2.out]⟩
                      case measure => simp [intOf]; omega
                  · have ei : i = len := by omega
                    subst ei
                    have hx : idxI (lastIdx ss q i) = (j : Int) := by rw [hl]; rfl
                    clear hl hil hi
                    go_wp2_with fail
                    refine (closed_calls co clen ccap bs j _ hcl HB3.out).mono ?_
                    rw [HCB.out]
                    rintro e w'' ⟨rfl, rfl⟩
                    go_wp2
                    go_ret
                    exact ⟨rfl, HW.out⟩
              · have hst : stateOf clen bs j = 9 := by simp [stateOf, hcb]
                rw [hst] at hS2
                have hjl : (j : Int) < (len : Int) := by have := lastIdx_lt hl; omega
                go_wp2_with fail
                refine (namespace_found _ q N S (some (wc.heap.size + 1)) _ (ns_found n c (wc.heap.size + 1 + 1 + 1 + 1) (wc.heap.size + 1) wc.heap.size len D q N S _ hc1 hch hI2.envOf (hI2.envd hown) hq hat (by omega) (by omega) (by omega) hN2 hS2)).mono ?_
                rintro e w' ⟨rfl, hgr⟩
                have hb' : Below wc.heap.size wc w' := hI2.bel.grown hgr (by omega) (fun k e => by simp at e; omega)
                have c5' : w'.cell? ⟨wc.heap.size + 1 + 1 + 1 + 1 + 1, j, none⟩ = some (.pointer (some ⟨S, 0, none⟩)) := (World.cell?_of_block (a := ⟨wc.heap.size + 1 + 1 + 1 + 1 + 1, j, none⟩) (hgr.block (wc.heap.size + 1 + 1 + 1 + 1 + 1) (by omega) (by simp; omega))).trans hrow
                have HB3 : Hid (Bools w' co clen bs) := HB.out.below hb'
                have HW : Hid (Below wc.heap.size wc w') := hb'
                have HCB : Hid (closedAt clen bs j = true) := hcb
                clear hgr hI2 hch hc1 hown hat hb' hcb hst hN1 hS1 hN2 hS2 hrow
                go_wp2
                go_loop [28, 29] (fun v28 v29 => ∃ i : Nat, i ≤ len ∧ v29 = .int .i64 i ∧ v28 = .int .i64 (idxI (lastIdx ss q i))) (fun _ v => len - (intOf v).toNat)
                case atStart => exact ⟨0, Nat.zero_le _, rfl, rfl⟩
                case round =>
                  obtain ⟨i, hi, rfl, rfl⟩ := hrel
                  by_cases hil : i < len
                  · obtain ⟨_, _, ⟨h3⟩ | ⟨b, off, rfl, hcell⟩⟩ := HS.out
                    · omega
                    have hck := hcell i hil
                    have cs := (HW.out.cell (p := ⟨b, off + i, none⟩) (World.block_lt_of_cell? _ _ hck)).trans hck
                    have HL : Hid (lastIdx ss q (i + 1) = if ss.getD i ByteArray.empty = q then some i else lastIdx ss q i) := rfl
                    generalize ss.getD i ByteArray.empty = sk at cs HL
                    clear hck hcell 
                    by_cases heq : sk = q
                    · have hL2 : lastIdx ss q (i + 1) = some i := by rw [HL.out, if_pos heq]
                      have HL2 : Hid (lastIdx ss q (i + 1) = some i) := hL2
                      clear hL2
                      subst heq
                      clear HL
                      go_wp2
                      go_round
                      case rel => exact ⟨i + 1, by omega, by go_num, by rw [HL2.out]; rfl⟩
                      case measure => simp [intOf]; omega
                    · have hL2 : lastIdx ss q (i + 1) = lastIdx ss q i := by rw [HL.out, if_neg heq]
                      have HL2 : Hid (lastIdx ss q (i + 1) = lastIdx ss q i) := hL2
                      have hne : (sk.toList == q.toList) = false := toList_ne heq
                      clear hL2
                      clear HL heq
                      go_wp2
                      go_round
                      case rel => exact ⟨i + 1, by omega, by go_num, by rw [HL2.out]⟩
                      case measure => simp [intOf]; omega
                  · have ei : i = len := by omega
                    subst ei
                    have hx : idxI (lastIdx ss q i) = (j : Int) := by rw [hl]; rfl
                    clear hl hil hi
                    go_wp2_with fail
                    refine (closed_calls co clen ccap bs j _ hcl HB3.out).mono ?_
                    rw [HCB.out]
                    rintro e w'' ⟨rfl, rfl⟩
                    go_wp2
                    go_ret
                    exact ⟨rfl, HW.out⟩
      · have hlI := hI.lt
        go_wp2_with fail
        refine (namespace_fails _ q aH none _ (ns_host wr.heap.size q aH _ (by go_simp) (by exact (hI.alloc _).global HG.out.1))).mono ?_
        rintro e w' ⟨N, rfl, hN, hgr⟩
        have hb' : Below wc.heap.size wc w' := (hI.alloc _).bel.grown hgr (by simp; omega) (fun k e => by cases e)
        have g1' : w'.cell? ⟨0, 0, none⟩ = some (.iface 106 (.pointer (some aH))) := (hb'.cell (p := ⟨0, 0, none⟩) (World.block_lt_of_cell? _ _ HG.out.1)).trans HG.out.1
        have HW : Hid (Below wc.heap.size wc w') := hb'
        obtain ⟨n0, n1, n2, n3⟩ := hN
        clear hgr hb'
        go_wp2
        go_ret
        exact ⟨rfl, HW.out⟩
      · go_wp2
        go_loopw [21, 23] (fun v i w2 => ∃ n c : Nat, (n : Int) ≤ (depth : Int) % 8 ∧ i = .int .i64 n ∧ v = .pointer (some ⟨c, 0, none⟩) ∧ Inv wc w2 len ss clen bs q len ∧ Chain w2 n c wr.heap.size ∧ EnvOf w2 wr.heap.size none ∧ w2.cell? ⟨c, 1, none⟩ = some (.int .u64 0)) (fun _ i _ => depth % 8 - (intOf i).toNat)
        case atStart => exact ⟨0, _, by omega, rfl, rfl, hI.alloc _, rfl, ⟨by go_simp, .inl ⟨rfl, by go_simp⟩⟩, by go_simp⟩
        case round =>
          obtain ⟨n, c, hn, rfl, rfl, hI2, hch, hev, hc1⟩ := hrel
          clear hI
          by_cases hnd : (n : Int) < (depth : Int) % 8
          · have HH := And.intro hI2 (And.intro hch hev)
            have HH2 : Hid _ := HH
            clear hI2 hch hev HH
            have hcl := World.block_lt_of_cell? _ _ hc1
            simp only at hcl
            go_wp2
            go_roundw
            case rel => exact ⟨n + 1, wr.heap.size, by omega, by go_num, rfl, HH2.out.1.alloc _, HH2.out.2.1.more hcl _ (by go_simp), HH2.out.2.2.alloc _, by go_simp⟩
            case measure => simp [intOf]; omega
          · have hlI := hI2.lt
            go_wp2_with fail
            refine (namespace_fails _ q aF none _ (ns_noenv n c _ q aF _ hc1 hch hev (hI2.global HG.out.2.1))).mono ?_
            rintro e w' ⟨N, rfl, hN, hgr⟩
            have hb' : Below wc.heap.size wc w' := hI2.bel.grown hgr (by omega) (fun k e => by cases e)
            have g1' : w'.cell? ⟨1, 0, none⟩ = some (.iface 106 (.pointer (some aF))) := (hb'.cell (p := ⟨1, 0, none⟩) (World.block_lt_of_cell? _ _ HG.out.2.1)).trans HG.out.2.1
            have HW : Hid (Below wc.heap.size wc w') := hb'
            obtain ⟨n0, n1, n2, n3⟩ := hN
            clear hgr hb'
            go_wp2
            go_ret
            exact ⟨rfl, HW.out⟩
      · have hlI := hI.lt
        go_wp2_with fail
        refine (namespace_fails _ q aF none _ (ns_nil q aF _ (hI.global HG.out.2.1))).mono ?_
        rintro e w' ⟨N, rfl, hN, hgr⟩
        have hb' : Below wc.heap.size wc w' := hI.bel.grown hgr (by omega) (fun k e => by cases e)
        have g1' : w'.cell? ⟨1, 0, none⟩ = some (.iface 106 (.pointer (some aF))) := (hb'.cell (p := ⟨1, 0, none⟩) (World.block_lt_of_cell? _ _ HG.out.2.1)).trans HG.out.2.1
        have HW : Hid (Below wc.heap.size wc w') := hb'
        obtain ⟨n0, n1, n2, n3⟩ := hN
        clear hgr hb'
        go_wp2
        go_ret
        exact ⟨rfl, HW.out⟩

set_option maxRecDepth 100000 in
/-- more than 1024 paths: it says yes at once -/
theorem resolve_many (ao : Option Addr) (len cap : Nat) (co : Option Addr) (clen ccap : Nat) (query : ByteArray) (pick mode depth : Nat) (w : World) (hlen : 1024 < len) (hm : len ≤ maxLen) :
    Calls Ybad.prog 3 #[.slice ao len cap, .slice co clen ccap, .string query, .int .u16 pick, .int .u8 mode, .int .u8 depth] w fun e w' => e = .returned (.bool true) ∧ Below w.heap.size w w' := by
  unfold maxLen at hm
  have h1 : (1024 : Int) < (len : Int) := by omega
  go_enter Ybad.func3, Ybad.ntmps3
  go_wp2
  go_ret
  exact ⟨rfl, Below.refl _ _⟩
end Go.Proofs.YbulkbgykDoor
