/- The walks of LawS2896BKeeps: no name, some names, too many names. -/
import Derived.Test.YbulkbgykTable
import Derived.Below
import Derived.LoopTactic
import Derived.BigQuiet
import Derived.Deep.QuietTactic
import Derived.Deep.AppendLies
import Derived.Deep.RegionLaw
import Derived.Deep.DeepMust
namespace Go.Proofs.Ybulkbgyk
open Go.ChangeShapes Go.WideShapes Go.ChangeAt Go.RowKit
set_option linter.unusedVariables false

abbrev entry (s : ByteArray) : List Value := [.string s, .int .u64 0, .int .i64 0, .pointer none]
theorem entryInfo : (Yba.prog.info? 40).map (fun i => (i.zero, i.size, i.bytes)) = some (some (.agg #[.string ByteArray.empty, .int .u64 0, .int .i64 0, .pointer none]), 4, 40) := by kernel_rfl
def rowOf (ss : List ByteArray) : List Value := ss.flatMap entry
theorem rowOf_length (ss : List ByteArray) : (rowOf ss).length = ss.length * 4 := by
  induction ss with
  | nil => rfl
  | cons s r ih => simp only [rowOf, List.flatMap_cons, List.length_append, List.length_cons] at ih ⊢; rw [ih]; simp; omega
theorem rowOf_snoc (ss : List ByteArray) (s : ByteArray) : rowOf (ss ++ [s]) = rowOf ss ++ entry s := by simp [rowOf]
theorem rowOf_take (ss : List ByteArray) (k : Nat) (h : k < ss.length) : rowOf (ss.take (k + 1)) = rowOf (ss.take k) ++ entry (ss.getD k ByteArray.empty) := by
  rw [List.take_succ_eq_append_getElem h, rowOf_snoc]
  simp [List.getD, h]

/-- what holds at the first loop's head, behind k rounds -/
structure Filled (w wr : World) (ss : List ByteArray) (k : Nat) (v : Value) : Prop where
  bel : Below w.heap.size w wr
  lt : w.heap.size < wr.heap.size
  c0 : wr.cell? ⟨w.heap.size, 0, none⟩ = some v
  c2 : wr.cell? ⟨w.heap.size, 2, none⟩ = some (.pointer none)
  f0 : wr.frozen? ⟨w.heap.size, 0, none⟩ = false
  f2 : wr.frozen? ⟨w.heap.size, 2, none⟩ = false
  own : wr.ownsRow (w.heap.size + 1) 40 4 v k (rowOf (ss.take k))


theorem Filled.ne {w wr : World} {ss : List ByteArray} {k : Nat} {v : Value} (h : Filled w wr ss k v) : some w.heap.size ≠ v.ownBlock := fun e => by
  have := h.own.lt _ e.symm
  omega

theorem Filled.step {w wr w1 : World} {ss : List ByteArray} {k : Nat} {v : Value} (h : Filled w wr ss k v) (hk : k < ss.length) (o : Obj) {g cap : Nat}
    (hgrow : ((wr.alloc o).drew).grownBy w1 v.ownBlock)
    (hown : w1.ownsRow (w.heap.size + 1) 40 4 (.slice (some ⟨g, 0, none⟩) (k + 1) cap) (k + 1) (rowOf (ss.take k) ++ entry (ss.getD k ByteArray.empty))) :
    w1.cell? ⟨w.heap.size, 0, none⟩ = some v ∧ w1.frozen? ⟨w.heap.size, 0, none⟩ = false ∧
      Filled w (w1.setCell ⟨w.heap.size, 0, none⟩ (.slice (some ⟨g, 0, none⟩) (k + 1) cap)) ss (k + 1) (.slice (some ⟨g, 0, none⟩) (k + 1) cap) := by
  have hlt := h.lt
  have hal : ∀ j, ((wr.alloc o).drew).cell? ⟨w.heap.size, j, none⟩ = wr.cell? ⟨w.heap.size, j, none⟩ := fun j => (((Below.refl wr.heap.size wr).alloc (Nat.le_refl _) o).drew).cell (p := ⟨w.heap.size, j, none⟩) hlt
  have haf : ∀ j, ((wr.alloc o).drew).frozen? ⟨w.heap.size, j, none⟩ = wr.frozen? ⟨w.heap.size, j, none⟩ := fun j => (((Below.refl wr.heap.size wr).alloc (Nat.le_refl _) o).drew).frozen (p := ⟨w.heap.size, j, none⟩) hlt
  have hsz : w.heap.size < ((wr.alloc o).drew).heap.size := by
    show w.heap.size < (wr.alloc o).heap.size
    simp; omega
  have g0 : ∀ j, w1.cell? ⟨w.heap.size, j, none⟩ = wr.cell? ⟨w.heap.size, j, none⟩ := fun j => (hgrow.cell_far ⟨w.heap.size, j, none⟩ hsz h.ne).trans (hal j)
  have gf : ∀ j, w1.frozen? ⟨w.heap.size, j, none⟩ = wr.frozen? ⟨w.heap.size, j, none⟩ := fun j => (hgrow.frozen_far ⟨w.heap.size, j, none⟩ hsz h.ne).trans (haf j)
  have hbel : Below w.heap.size w w1 := ((h.bel.alloc (by omega) o).drew).grown hgrow (by omega) (fun k hk => by have := h.own.lt k hk; omega)
  have hs1 := hgrow.size
  refine ⟨(g0 0).trans h.c0, (gf 0).trans h.f0, ⟨hbel.setCell (Nat.le_refl _) _, ?_, ?_, ?_, ?_, ?_, ?_⟩⟩
  · simp; omega
  · exact World.cell?_setCell_same _ _ _ ((g0 0).trans h.c0)
  · rw [World.cell?_setCell_other _ _ _ _ (by simp)]; exact (g0 2).trans h.c2
  · simp; exact (gf 0).trans h.f0
  · simp; exact (gf 2).trans h.f2
  · rw [rowOf_take _ _ hk]
    exact ownsRow_setCell_below hown (by simp) _


theorem Filled.start (w : World) (ss : List ByteArray) : Filled w (w.alloc (.cells #[.slice none 0 0, .slice none 0 0, .pointer none, .string { data := #[] }, .int .u64 0, .int .i64 0, .pointer none, .string { data := #[] }, .int .u64 0, .int .i64 0, .pointer none] 43)) ss 0 (.slice none 0 0) :=
  ⟨(Below.refl _ _).alloc (Nat.le_refl _) _, by simp, by simp, by simp, by simp, by simp, World.ownsRow_nil _ _ _ _⟩

theorem news_of_alloc (wr : World) (s : ByteArray) : ∀ j u, (entry s)[j]? = some u → ((wr.alloc (.cells (entry s).toArray 40)).drew).cell? ((⟨wr.heap.size, 0, none⟩ : Addr).add j) = some u :=
  World.news_of_block (w := (wr.alloc (.cells (entry s).toArray 40)).drew) (B := wr.heap.size) (cs := (entry s).toArray) (t := 40) (fr := (0, 0)) (heap_alloc_new wr _)


/-- what holds at the second loop's head -/
structure Done (w wr : World) (ss : List ByteArray) (k g cap : Nat) : Prop where
  bel : Below w.heap.size w wr
  c0 : wr.cell? ⟨w.heap.size, 0, none⟩ = some (.slice (some ⟨g, 0, none⟩) k cap)
  rows : ∀ j, j < k → wr.cell? ⟨g, j * 4, none⟩ = some (.string (ss.getD j ByteArray.empty))

theorem rowOf_get (ss : List ByteArray) (j : Nat) (h : j < ss.length) : (rowOf ss)[j * 4]? = some (.string (ss.getD j ByteArray.empty)) := by
  induction ss generalizing j with
  | nil => simp at h
  | cons s r ih =>
    cases j with
    | zero => simp [rowOf, entry]
    | succ j =>
      have := ih j (by simpa using h)
      have e : (j + 1) * 4 = j * 4 + 4 := by omega
      rw [e]
      simpa [rowOf, entry] using this

theorem Filled.rows {w wr : World} {ss : List ByteArray} {k g cap : Nat} (h : Filled w wr ss k (.slice (some ⟨g, 0, none⟩) k cap)) (hk : k ≤ ss.length) :
    ∀ j, j < k → wr.cell? ⟨g, j * 4, none⟩ = some (.string (ss.getD j ByteArray.empty)) := fun j hj => by
  rw [h.own.cellAt (j * 4) (by omega), rowOf_get _ _ (by simp; omega)]
  simp [List.getD, hj]

theorem Filled.done {w wr : World} {ss : List ByteArray} {k g cap : Nat} (h : Filled w wr ss k (.slice (some ⟨g, 0, none⟩) k cap)) (hk : k ≤ ss.length) (o : Obj) : Done w (wr.alloc o) ss k g cap := by
  have hg := h.own.lt g rfl
  have hb := (Below.refl wr.heap.size wr).alloc (Nat.le_refl _) o
  exact ⟨h.bel.alloc (Nat.le_of_lt h.lt) o, (hb.cell (p := ⟨w.heap.size, 0, none⟩) h.lt).trans h.c0, fun j hj => (hb.cell (p := ⟨g, j * 4, none⟩) hg.2).trans (h.rows hk j hj)⟩

theorem Filled.done2 {w wr : World} {ss : List ByteArray} {k g cap : Nat} (h : Filled w wr ss k (.slice (some ⟨g, 0, none⟩) k cap)) (hk : k ≤ ss.length) (o o2 : Obj) (u : Value) :
    Done w (((wr.setCell ⟨w.heap.size, 2, none⟩ u).alloc o).alloc o2) ss k g cap := by
  have hg := h.own.lt g rfl
  have hlt := h.lt
  have hb := ((Below.refl wr.heap.size (wr.setCell ⟨w.heap.size, 2, none⟩ u)).alloc (by simp) o).alloc (by simp) o2
  refine ⟨?_, ?_, ?_⟩
  · exact ((h.bel.setCell (by simp) u).alloc (by simp; omega) o).alloc (by simp; omega) o2
  · rw [hb.cell (p := ⟨w.heap.size, 0, none⟩) hlt, World.cell?_setCell_other _ _ _ _ (by simp)]; exact h.c0
  · intro j hj
    rw [hb.cell (p := ⟨g, j * 4, none⟩) hg.2, World.cell?_setCell_other _ _ _ _ (fun e => by simp at e)]
    exact h.rows hk j hj

theorem Done.drewN {w wr : World} {ss : List ByteArray} {k g cap : Nat} (h : Done w wr ss k g cap) (n : Nat) : Done w (wr.drewN n) ss k g cap :=
  ⟨⟨h.bel.os, h.bel.tape, h.bel.output, h.bel.size, h.bel.block⟩, h.c0, h.rows⟩

theorem info55 : (Yba.prog.info? 55).isSome = true := by kernel_rfl
theorem ptrneq29 (a : Addr) (w : World) : (binOp .neq 29 (.pointer (some a)) (.pointer (some a))).run Yba.prog w = .ok (.bool false) w := by
  obtain ⟨j, hj⟩ := Option.isSome_iff_exists.1 info55
  exact Lib.run_neq_ptr_same w a Yba.underlying29 hj

set_option maxRecDepth 100000 in
set_option maxHeartbeats 1000000 in
theorem keeps_some (a0 : Int) (b off len cap : Nat) (ss : List ByteArray) (a2 : Bool) (w : World) (h0 : 0 < len) (hlen : len ≤ 1024) (hs : len ≤ ss.length) (hcell : ∀ i, i < ss.length → w.cell? ⟨b, off + i, none⟩ = some (.string (ss.getD i ByteArray.empty))) :
    Calls Yba.prog 4 #[.int .u64 a0, .slice (some ⟨b, off, none⟩) len cap, .bool a2] w fun e w' => e = .returned (.bool true) ∧ Below w.heap.size w w' := by
  have hp := ptrneq
  have hp9 := ptrneq29
  obtain ⟨i40, hi40, hz40⟩ := Option.map_eq_some_iff.1 entryInfo
  simp only [Prod.mk.injEq] at hz40
  obtain ⟨hz1, hz2, hz3⟩ := hz40
  have HC : Hid (∀ i, i < ss.length → w.cell? ⟨b, off + i, none⟩ = some (.string (ss.getD i ByteArray.empty))) := hcell
  clear hcell
  have HI : Hid (Yba.prog.info? 40 = some i40 ∧ i40.zero = some (.agg #[.string ByteArray.empty, .int .u64 0, .int .i64 0, .pointer none]) ∧ i40.size = 4 ∧ i40.bytes = 40) := ⟨hi40, hz1, hz2, hz3⟩
  clear hi40 hz1 hz2 hz3
  go_enter Yba.func4, Yba.ntmps4
  go_wp2
  go_loopw [8] (fun i wr => ∃ (k : Nat) (v : Value), k ≤ len ∧ i = .int .i64 k ∧ Filled w wr ss k v) (fun i _ => len - (intOf i).toNat)
  case atStart => exact ⟨0, _, Nat.zero_le _, rfl, Filled.start w ss⟩
  case round =>
    obtain ⟨k, v, hk, rfl, hF⟩ := hrel
    by_cases hlt : k < len
    · have hb := World.block_lt_of_cell? _ _ (HC.out k (by omega))
      simp only at hb
      have c0 := hF.c0
      have f0 := hF.f0
      have c0a : ∀ o, (wr.alloc o).cell? ⟨w.heap.size, 0, none⟩ = some v := fun o => (((Below.refl wr.heap.size wr).alloc (Nat.le_refl _) o).cell (p := ⟨w.heap.size, 0, none⟩) hF.lt).trans hF.c0
      have cs := (hF.bel.cell (p := ⟨b, off + k, none⟩) hb).trans (HC.out k (by omega))
      generalize hsk : ss.getD k ByteArray.empty = sk at cs
      have HK : Hid (ss.getD k ByteArray.empty = sk) := hsk
      clear hsk
      go_wp2
      go_region_law (refine step_append_lies _ rfl (.tmp 28) (.tmp 34) 27 rfl (w.heap.size + 1) 40 i40 _ 4 40 Yba.underlying27 HI.out.1 HI.out.2.1 HI.out.2.2.1 HI.out.2.2.2 rfl (by decide) v k (rowOf (ss.take k)) (by simp [Act.eval]) (by exact hF.own.alloc _) ⟨wr.heap.size, 0, none⟩ 1 1 (entry sk) (by simp [Act.eval]) rfl (by exact news_of_alloc wr sk) (by simp [Value.oneCell']) (by decide) (by simp only [maxLen]; omega) (by omega) (by have := hF.lt; simp; omega) _ rfl ?_; intro g cap' w1 hown hgrow hat hlt1; obtain ⟨q1, q2, q3⟩ := hF.step (by omega) _ hgrow (by rw [HK.out]; exact hown); have Q3 : Hid (Filled w (w1.setCell ⟨w.heap.size, 0, none⟩ (.slice (some ⟨g, 0, none⟩) (k + 1) cap')) ss (k + 1) (.slice (some ⟨g, 0, none⟩) (k + 1) cap')) := q3; clear q3 hown hgrow hat hlt1)
      all_goals
        go_wp2
        go_roundw
        case rel => exact ⟨k + 1, _, by omega, by go_num, Q3.out⟩
        case measure => simp [intOf]; omega
    · obtain rfl : k = len := by omega
      have hltw := hF.lt
      have c0 := hF.c0
      have c2 := hF.c2
      have f0 := hF.f0
      have f2 := hF.f2
      obtain ⟨g, cap', rfl, hg1, hg2⟩ := hF.own.form (by omega)
      cases a2
      · go_wp2_with fail
        refine (table_keeps _ _ ⟨w.heap.size, 0, none⟩ _ (by go_simp)).mono ?_
        rintro e w' ⟨rfl, rfl⟩
        go_wp2
        go_loopw [12] (fun i w2 => ∃ q : Nat, q ≤ k ∧ i = .int .i64 q ∧ Done w w2 ss k g cap') (fun i _ => k - (intOf i).toNat)
        case atStart => exact ⟨0, Nat.zero_le _, rfl, hF.done hs _⟩
        case round =>
          obtain ⟨q, hq, rfl, hD⟩ := hrel
          clear c0 c2 f0 f2
          by_cases hlq : q < k
          · have hb := World.block_lt_of_cell? _ _ (HC.out q (by omega))
            simp only at hb
            have d0 := hD.c0
            have dr := hD.rows q hlq
            have ds := (hD.bel.cell (p := ⟨b, off + q, none⟩) hb).trans (HC.out q (by omega))
            generalize hsk : ss.getD q ByteArray.empty = sk at ds dr
            clear hsk
            go_wp2
            go_quiet (fail)
            go_wp2
            go_roundw
            case rel => exact ⟨q + 1, by omega, by go_num, hD.drewN _⟩
            case measure => simp [intOf]; omega
          · obtain rfl : q = k := by omega
            go_wp2
            go_ret
            exact ⟨rfl, hD.bel⟩
      · go_wp2_with fail
        refine (table_keeps _ _ ⟨w.heap.size, 0, none⟩ _ (by go_simp)).mono ?_
        rintro e w' ⟨rfl, rfl⟩
        go_wp2
        go_loopw [12] (fun i w2 => ∃ q : Nat, q ≤ k ∧ i = .int .i64 q ∧ Done w w2 ss k g cap') (fun i _ => k - (intOf i).toNat)
        case atStart => exact ⟨0, Nat.zero_le _, rfl, hF.done2 hs _ _ _⟩
        case round =>
          obtain ⟨q, hq, rfl, hD⟩ := hrel
          clear c0 c2 f0 f2
          by_cases hlq : q < k
          · have hb := World.block_lt_of_cell? _ _ (HC.out q (by omega))
            simp only at hb
            have d0 := hD.c0
            have dr := hD.rows q hlq
            have ds := (hD.bel.cell (p := ⟨b, off + q, none⟩) hb).trans (HC.out q (by omega))
            generalize hsk : ss.getD q ByteArray.empty = sk at ds dr
            clear hsk
            go_wp2
            go_quiet (fail)
            go_wp2
            go_roundw
            case rel => exact ⟨q + 1, by omega, by go_num, hD.drewN _⟩
            case measure => simp [intOf]; omega
          · obtain rfl : q = k := by omega
            go_wp2
            go_ret
            exact ⟨rfl, hD.bel⟩

set_option maxRecDepth 100000 in
set_option maxHeartbeats 1000000 in
/-- no name at all -/
theorem keeps_none (a0 : Int) (ao : Option Addr) (cap : Nat) (a2 : Bool) (w : World) :
    Calls Yba.prog 4 #[.int .u64 a0, .slice ao 0 cap, .bool a2] w fun e w' => e = .returned (.bool true) ∧ Below w.heap.size w w' := by
  have hp := ptrneq
  have hp9 := ptrneq29
  cases a2
  · go_enter Yba.func4, Yba.ntmps4
    go_wp2
    go_loop [8] (fun i => i = .int .i64 0) (fun _ => 0)
    case atStart => rfl
    case round =>
      subst hrel
      go_wp2_with fail
      refine (table_keeps _ _ ⟨w.heap.size, 0, none⟩ _ (by go_simp)).mono ?_
      rintro e w' ⟨rfl, rfl⟩
      go_wp2
      go_loop [12] (fun i => i = .int .i64 0) (fun _ => 0)
      case atStart => rfl
      case round =>
        subst hrel
        go_wp2
        go_ret
        exact ⟨rfl, ((Below.refl _ _).alloc (Nat.le_refl _) _).alloc (by simp) _⟩
  · go_enter Yba.func4, Yba.ntmps4
    go_wp2
    go_loop [8] (fun i => i = .int .i64 0) (fun _ => 0)
    case atStart => rfl
    case round =>
      subst hrel
      go_wp2_with fail
      refine (table_keeps _ _ ⟨w.heap.size, 0, none⟩ _ (by go_simp)).mono ?_
      rintro e w' ⟨rfl, rfl⟩
      go_wp2
      go_loop [12] (fun i => i = .int .i64 0) (fun _ => 0)
      case atStart => rfl
      case round =>
        subst hrel
        go_wp2
        go_ret
        exact ⟨rfl, (((Below.refl _ _).alloc (Nat.le_refl _) _).alloc (by simp) _).alloc (by simp; omega) _⟩

set_option maxRecDepth 100000 in
/-- too many names: it says yes at once -/
theorem keeps_many (a0 : Int) (ao : Option Addr) (len cap : Nat) (a2 : Bool) (w : World) (hlen : 1024 < len) (hm : len ≤ maxLen) :
    Calls Yba.prog 4 #[.int .u64 a0, .slice ao len cap, .bool a2] w fun e w' => e = .returned (.bool true) ∧ Below w.heap.size w w' := by
  unfold maxLen at hm
  have h1 : (1024 : Int) < (len : Int) := by omega
  go_enter Yba.func4, Yba.ntmps4
  go_wp2
  go_ret
  exact ⟨rfl, Below.refl _ _⟩
end Go.Proofs.Ybulkbgyk
