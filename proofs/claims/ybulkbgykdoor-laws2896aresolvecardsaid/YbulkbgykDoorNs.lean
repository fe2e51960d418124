/- The map of namespaces, and the contracts of namespace and Namespace. -/
import Derived.Test.YbulkbgykDoorScope
import Derived.Maps.Own
import Derived.Maps.Views
namespace Go.Proofs.YbulkbgykDoor
open Go.ChangeShapes Go.WideShapes Go.ChangeAt Go.RowKit
open Go.ChangeMaps Go.WideElems Go.WideMaps
open Go.Maps (Keyed string_keyed)
set_option linter.unusedVariables false

/-- an element of the map reads as itself -/
def R (v : Value) : Option (DataW Value × List MemPlace) := some (.held v, [])
abbrev keyed : Keyed Ybad.prog 9 := string_keyed Ybad.underlying9
abbrev nilD : DataW Value := .held (.pointer none)

theorem look {w : World} {M n : Nat} {D : DataW Value} {q : ByteArray} {v : Value} (h : w.ownsMap Ybad.prog 9 R M n D) (hq : q.size ≤ maxLen) (hv : D.atKey (.string q.data.toList) nilD = .held v) :
    (Instr.lookup 26 (.map (some M)) (.string q) false).run Ybad.prog w = .ok v w := by
  obtain ⟨u, ps, hrun, hu⟩ := h.lookup keyed Ybad.underlying26 (z := .pointer none) (by kernel_rfl) (zd := nilD) (zp := []) rfl (keyOf_string_mk Ybad.underlying9 hq)
  rw [hv] at hu
  simp only [R, Option.some.injEq, Prod.mk.injEq, DataW.held.injEq] at hu
  rw [hrun, hu.1]

theorem ownsMap_of_heap {w w' : World} {M n : Nat} {D : DataW Value} (h : w.ownsMap Ybad.prog 9 R M n D) (e : w'.heap[M]? = w.heap[M]?) : w'.ownsMap Ybad.prog 9 R M n D := by
  obtain ⟨es, c, h1, h2⟩ := h
  exact ⟨es, c, e.trans h1, h2⟩

structure Envd (w : World) (E M n : Nat) (D : DataW Value) : Prop where
  mu : w.cell? ⟨E, 1, none⟩ = some (.int .i32 0)
  mf : w.frozen? ⟨E, 1, none⟩ = false
  sp : w.cell? ⟨E, 3, none⟩ = some (.map (some M))
  own : w.ownsMap Ybad.prog 9 R M n D
  ne : M ≠ E

abbrev opS : ByteArray := { data := #[110, 97, 109, 101, 115, 112, 97, 99, 101] }
/-- the error that is made: where it lies, and what it holds -/
def NameErr (w' : World) (N : Nat) (q : ByteArray) (a : Addr) : Prop :=
  w'.cell? ⟨N, 0, none⟩ = some (.string opS) ∧ w'.cell? ⟨N, 1, none⟩ = some (.string q) ∧ w'.cell? ⟨N, 2, none⟩ = some (.string { data := #[] }) ∧ w'.cell? ⟨N, 3, none⟩ = some (.iface 106 (.pointer (some a)))

theorem nameErr_new (w : World) (q : ByteArray) (a : Addr) (n : Nat) (hn : n = w.heap.size) : NameErr ((w.alloc (.cells #[.string opS, .string q, .string { data := #[] }, .iface 106 (.pointer (some a))] 74)).drew) n q a := by
  subst hn
  exact ⟨by go_simp, by go_simp, by go_simp, by go_simp⟩
theorem grown_alloc (w : World) (o : Obj) (row : Option Nat) : w.grownBy ((w.alloc o).drew) row :=
  let h := World.grownBy_alloc w o row
  ⟨h.os, h.tape, h.output, h.size, h.block⟩
theorem grown_lock (w : World) (E : Nat) : w.grownBy ((w.setCell ⟨E, 1, none⟩ (.int .i32 1)).setCell ⟨E, 1, none⟩ (.int .i32 0)) (some E) :=
  ⟨rfl, rfl, rfl, by simp, fun k _ hk => by
    have hk' : k ≠ E := fun e => hk (by rw [e])
    rw [Below.heap_setCell _ _ _ _ hk', Below.heap_setCell _ _ _ _ hk']⟩
theorem grown_trans {w w1 w2 : World} {row : Option Nat} (h : w.grownBy w1 row) (k : w1.grownBy w2 row) : w.grownBy w2 row :=
  ⟨k.os.trans h.os, k.tape.trans h.tape, k.output.trans h.output, Nat.le_trans h.size k.size, fun i hi hr => (k.block i (Nat.lt_of_lt_of_le hi h.size) hr).trans (h.block i hi hr)⟩

/-- what the call of namespace, or of Namespace, comes to where it fails -/
abbrev Fails (f : FuncId) (args : Array Value) (q : ByteArray) (a : Addr) (row : Option Nat) (w : World) : Prop :=
  Calls Ybad.prog f args w fun e w' => ∃ N, e = .returned (.tuple #[.pointer none, .iface 71 (.pointer (some ⟨N, 0, none⟩))]) ∧ NameErr w' N q a ∧ w.grownBy w' row

/-- a host frame -/
theorem ns_host (s : Nat) (q : ByteArray) (a : Addr) (w : World) (hc : w.cell? ⟨s, 1, none⟩ = some (.int .u64 4)) (hg : w.cell? ⟨0, 0, none⟩ = some (.iface 106 (.pointer (some a)))) :
    Fails 13 #[.pointer (some ⟨s, 0, none⟩), .string opS, .string q] q a none w := by
  go_enter Ybad.func13, Ybad.ntmps13
  go_wp2_with fail
  refine (isHost_yes s _ hc).mono ?_
  rintro e w' ⟨rfl, rfl⟩
  go_wp2
  go_region
  go_wp2
  go_ret2
  exact ⟨_, rfl, nameErr_new _ q a _ rfl, grown_alloc _ _ _⟩

/-- the nil scope -/
theorem ns_nil (q : ByteArray) (a : Addr) (w : World) (hg : w.cell? ⟨1, 0, none⟩ = some (.iface 106 (.pointer (some a)))) :
    Fails 13 #[.pointer none, .string opS, .string q] q a none w := by
  go_enter Ybad.func13, Ybad.ntmps13
  go_wp2_with fail
  refine (isHost_nil _).mono ?_
  rintro e w' ⟨rfl, rfl⟩
  go_wp2_with fail
  refine (env_nil _).mono ?_
  rintro e w' ⟨rfl, rfl⟩
  go_wp2
  go_region
  go_wp2
  go_ret2
  exact ⟨_, rfl, nameErr_new _ q a _ rfl, grown_alloc _ _ _⟩

/-- a chain that has no environment -/
theorem ns_noenv (n s r : Nat) (q : ByteArray) (a : Addr) (w : World) (hc : w.cell? ⟨s, 1, none⟩ = some (.int .u64 0)) (hch : Chain w n s r) (henv : EnvOf w r none) (hg : w.cell? ⟨1, 0, none⟩ = some (.iface 106 (.pointer (some a)))) :
    Fails 13 #[.pointer (some ⟨s, 0, none⟩), .string opS, .string q] q a none w := by
  have HC : Hid (Chain w n s r ∧ EnvOf w r none) := ⟨hch, henv⟩
  clear hch henv
  go_enter Ybad.func13, Ybad.ntmps13
  go_wp2_with fail
  refine (isHost_no s _ hc).mono ?_
  rintro e w' ⟨rfl, rfl⟩
  go_wp2_with fail
  refine (env_some n s r none _ HC.out.1 HC.out.2).mono ?_
  rintro e w' ⟨rfl, rfl⟩
  go_wp2
  go_region
  go_wp2
  go_ret2
  exact ⟨_, rfl, nameErr_new _ q a _ rfl, grown_alloc _ _ _⟩

/-- the world behind the lock and the unlock -/
abbrev locked (w : World) (E : Nat) : World := w.setCell ⟨E, 1, none⟩ (.int .i32 1)
abbrev unlocked (w : World) (E : Nat) : World := (locked w E).setCell ⟨E, 1, none⟩ (.int .i32 0)
theorem locked_cell (w : World) (E b o : Nat) (h : b ≠ E) : (locked w E).cell? ⟨b, o, none⟩ = w.cell? ⟨b, o, none⟩ := World.cell?_setCell_other _ _ _ _ (fun e => h (by simpa using (congrArg Addr.block e).symm))
theorem unlocked_cell (w : World) (E b o : Nat) (h : b ≠ E) : (unlocked w E).cell? ⟨b, o, none⟩ = w.cell? ⟨b, o, none⟩ := by
  rw [World.cell?_setCell_other _ _ _ _ (fun e => h (by simpa using (congrArg Addr.block e).symm))]; exact locked_cell w E b o h


set_option maxHeartbeats 1000000 in
/-- the map does not hold the path -/
theorem ns_missing (n s r E M k : Nat) (D : DataW Value) (q : ByteArray) (a : Addr) (w : World) (hc : w.cell? ⟨s, 1, none⟩ = some (.int .u64 0)) (hch : Chain w n s r) (henv : EnvOf w r (some ⟨E, 0, none⟩)) (hE : Envd w E M k D)
    (hq : q.size ≤ maxLen) (hD : D.atKey (.string q.data.toList) nilD = .held (.pointer none)) (hgE : 2 < E) (hg : w.cell? ⟨1, 0, none⟩ = some (.iface 106 (.pointer (some a)))) :
    Fails 13 #[.pointer (some ⟨s, 0, none⟩), .string opS, .string q] q a (some E) w := by
  have HC : Hid (Chain w n s r ∧ EnvOf w r (some ⟨E, 0, none⟩)) := ⟨hch, henv⟩
  have hlk := look (w := locked w E) (ownsMap_of_heap hE.own (Below.heap_setCell _ _ _ _ hE.ne)) hq hD
  have hsp : (locked w E).cell? ⟨E, 3, none⟩ = some (.map (some M)) := (World.cell?_setCell_other _ _ _ _ (by simp)).trans hE.sp
  have mu := hE.mu
  have mf := hE.mf
  have mu1 : (locked w E).cell? ⟨E, 1, none⟩ = some (.int .i32 1) := World.cell?_setCell_same _ _ _ mu
  have mf1 : (locked w E).frozen? ⟨E, 1, none⟩ = false := by simpa using mf
  have hg1 : (unlocked w E).cell? ⟨1, 0, none⟩ = some (.iface 106 (.pointer (some a))) := (unlocked_cell w E 1 0 (by omega)).trans hg
  have hgr := grown_lock w E
  have HG : Hid (w.grownBy (unlocked w E) (some E)) := hgr
  clear hch henv hD hq hgr hE
  go_enter Ybad.func13, Ybad.ntmps13
  go_wp2_with fail
  refine (isHost_no s _ hc).mono ?_
  rintro e w' ⟨rfl, rfl⟩
  go_wp2_with fail
  refine (env_some n s r (some ⟨E, 0, none⟩) _ HC.out.1 HC.out.2).mono ?_
  rintro e w' ⟨rfl, rfl⟩
  clear HC
  go_wp2_with fail
  refine (lock_calls ⟨E, 1, none⟩ _ mu mf).mono ?_
  rintro e w1 ⟨rfl, rfl⟩
  go_wp2_with fail
  refine (unlock_calls ⟨E, 1, none⟩ _ mu1 mf1).mono ?_
  rintro e w1 ⟨rfl, rfl⟩
  clear mu mf mu1 mf1 hlk hsp hc
  go_wp2
  go_region
  go_wp2
  go_ret2
  exact ⟨_, rfl, nameErr_new _ q a _ (by simp), grown_trans HG.out (grown_alloc _ _ _)⟩

set_option maxHeartbeats 1000000 in
/-- the namespace is still open -/
theorem ns_open (n s r E M k : Nat) (D : DataW Value) (q : ByteArray) (N S : Nat) (a : Addr) (w : World) (hc : w.cell? ⟨s, 1, none⟩ = some (.int .u64 0)) (hch : Chain w n s r) (henv : EnvOf w r (some ⟨E, 0, none⟩)) (hE : Envd w E M k D)
    (hq : q.size ≤ maxLen) (hD : D.atKey (.string q.data.toList) nilD = .held (.pointer (some ⟨N, 0, none⟩))) (hgE : 2 < E) (hNE : N ≠ E) (hSE : S ≠ E) (hN : w.cell? ⟨N, 1, none⟩ = some (.pointer (some ⟨S, 0, none⟩))) (hS : w.cell? ⟨S, 1, none⟩ = some (.int .u64 8)) (hg : w.cell? ⟨2, 0, none⟩ = some (.iface 106 (.pointer (some a)))) :
    Fails 13 #[.pointer (some ⟨s, 0, none⟩), .string opS, .string q] q a (some E) w := by
  have HC : Hid (Chain w n s r ∧ EnvOf w r (some ⟨E, 0, none⟩)) := ⟨hch, henv⟩
  have hlk := look (w := locked w E) (ownsMap_of_heap hE.own (Below.heap_setCell _ _ _ _ hE.ne)) hq hD
  have hsp : (locked w E).cell? ⟨E, 3, none⟩ = some (.map (some M)) := (World.cell?_setCell_other _ _ _ _ (by simp)).trans hE.sp
  have mu := hE.mu
  have mf := hE.mf
  have mu1 : (locked w E).cell? ⟨E, 1, none⟩ = some (.int .i32 1) := World.cell?_setCell_same _ _ _ mu
  have mf1 : (locked w E).frozen? ⟨E, 1, none⟩ = false := by simpa using mf
  have hN1 : (unlocked w E).cell? ⟨N, 1, none⟩ = some (.pointer (some ⟨S, 0, none⟩)) := (unlocked_cell w E N 1 hNE).trans hN
  have hS1 : (unlocked w E).cell? ⟨S, 1, none⟩ = some (.int .u64 8) := (unlocked_cell w E S 1 hSE).trans hS
  have hg1 : (unlocked w E).cell? ⟨2, 0, none⟩ = some (.iface 106 (.pointer (some a))) := (unlocked_cell w E 2 0 (by omega)).trans hg
  have hgr := grown_lock w E
  have HG : Hid (w.grownBy (unlocked w E) (some E)) := hgr
  clear hch henv hD hq hgr hE
  go_enter Ybad.func13, Ybad.ntmps13
  go_wp2_with fail
  refine (isHost_no s _ hc).mono ?_
  rintro e w' ⟨rfl, rfl⟩
  go_wp2_with fail
  refine (env_some n s r (some ⟨E, 0, none⟩) _ HC.out.1 HC.out.2).mono ?_
  rintro e w' ⟨rfl, rfl⟩
  clear HC
  go_wp2_with fail
  refine (lock_calls ⟨E, 1, none⟩ _ mu mf).mono ?_
  rintro e w1 ⟨rfl, rfl⟩
  go_wp2_with fail
  refine (unlock_calls ⟨E, 1, none⟩ _ mu1 mf1).mono ?_
  rintro e w1 ⟨rfl, rfl⟩
  clear mu mf mu1 mf1 hlk hsp hc
  go_wp2_with fail
  refine (isClosed_no S _ hS1).mono ?_
  rintro e w1 ⟨rfl, rfl⟩
  go_wp2
  go_region
  go_wp2
  go_ret2
  exact ⟨_, rfl, nameErr_new _ q a _ (by simp), grown_trans HG.out (grown_alloc _ _ _)⟩

set_option maxHeartbeats 1000000 in
/-- the namespace is closed -/
theorem ns_found (n s r E M k : Nat) (D : DataW Value) (q : ByteArray) (N S : Nat) (w : World) (hc : w.cell? ⟨s, 1, none⟩ = some (.int .u64 0)) (hch : Chain w n s r) (henv : EnvOf w r (some ⟨E, 0, none⟩)) (hE : Envd w E M k D)
    (hq : q.size ≤ maxLen) (hD : D.atKey (.string q.data.toList) nilD = .held (.pointer (some ⟨N, 0, none⟩))) (hgE : 2 < E) (hNE : N ≠ E) (hSE : S ≠ E) (hN : w.cell? ⟨N, 1, none⟩ = some (.pointer (some ⟨S, 0, none⟩))) (hS : w.cell? ⟨S, 1, none⟩ = some (.int .u64 9)) :
    Calls Ybad.prog 13 #[.pointer (some ⟨s, 0, none⟩), .string opS, .string q] w fun e w' => e = .returned (.tuple #[.pointer (some ⟨N, 0, none⟩), .nilIface]) ∧ w'.cell? ⟨N, 1, none⟩ = some (.pointer (some ⟨S, 0, none⟩)) ∧ w.grownBy w' (some E) := by
  have HC : Hid (Chain w n s r ∧ EnvOf w r (some ⟨E, 0, none⟩)) := ⟨hch, henv⟩
  have hlk := look (w := locked w E) (ownsMap_of_heap hE.own (Below.heap_setCell _ _ _ _ hE.ne)) hq hD
  have hsp : (locked w E).cell? ⟨E, 3, none⟩ = some (.map (some M)) := (World.cell?_setCell_other _ _ _ _ (by simp)).trans hE.sp
  have mu := hE.mu
  have mf := hE.mf
  have mu1 : (locked w E).cell? ⟨E, 1, none⟩ = some (.int .i32 1) := World.cell?_setCell_same _ _ _ mu
  have mf1 : (locked w E).frozen? ⟨E, 1, none⟩ = false := by simpa using mf
  have hN1 : (unlocked w E).cell? ⟨N, 1, none⟩ = some (.pointer (some ⟨S, 0, none⟩)) := (unlocked_cell w E N 1 hNE).trans hN
  have hS1 : (unlocked w E).cell? ⟨S, 1, none⟩ = some (.int .u64 9) := (unlocked_cell w E S 1 hSE).trans hS
  have hgr := grown_lock w E
  have HG : Hid (w.grownBy (unlocked w E) (some E)) := hgr
  clear hch henv hD hq hgr hE
  go_enter Ybad.func13, Ybad.ntmps13
  go_wp2_with fail
  refine (isHost_no s _ hc).mono ?_
  rintro e w' ⟨rfl, rfl⟩
  go_wp2_with fail
  refine (env_some n s r (some ⟨E, 0, none⟩) _ HC.out.1 HC.out.2).mono ?_
  rintro e w' ⟨rfl, rfl⟩
  clear HC
  go_wp2_with fail
  refine (lock_calls ⟨E, 1, none⟩ _ mu mf).mono ?_
  rintro e w1 ⟨rfl, rfl⟩
  go_wp2_with fail
  refine (unlock_calls ⟨E, 1, none⟩ _ mu1 mf1).mono ?_
  rintro e w1 ⟨rfl, rfl⟩
  clear mu mf mu1 mf1 hlk hsp hc
  go_wp2_with fail
  refine (isClosed_yes S _ hS1).mono ?_
  rintro e w1 ⟨rfl, rfl⟩
  go_wp2
  go_ret2
  exact ⟨rfl, hN1, HG.out⟩

/-! ### Namespace -/
/-- it hands the failure on -/
theorem namespace_fails (v : Value) (q : ByteArray) (a : Addr) (row : Option Nat) (w : World) (h : Fails 13 #[v, .string opS, .string q] q a row w) : Fails 8 #[v, .string q] q a row w := by
  have HF : Hid (Fails 13 #[v, .string opS, .string q] q a row w) := h
  clear h
  go_enter Ybad.func8, Ybad.ntmps8
  go_wp2_with fail
  refine HF.out.mono ?_
  rintro e w' ⟨N, rfl, hN, hgr⟩
  have HG : Hid (NameErr w' N q a ∧ w.grownBy w' row) := ⟨hN, hgr⟩
  clear hN hgr HF
  go_wp2
  go_ret2
  exact ⟨N, rfl, HG.out.1, HG.out.2⟩
theorem namespace_found (v : Value) (q : ByteArray) (N S : Nat) (row : Option Nat) (w : World)
    (h : Calls Ybad.prog 13 #[v, .string opS, .string q] w fun e w' => e = .returned (.tuple #[.pointer (some ⟨N, 0, none⟩), .nilIface]) ∧ w'.cell? ⟨N, 1, none⟩ = some (.pointer (some ⟨S, 0, none⟩)) ∧ w.grownBy w' row) :
    Calls Ybad.prog 8 #[v, .string q] w fun e w' => e = .returned (.tuple #[.pointer (some ⟨S, 0, none⟩), .nilIface]) ∧ w.grownBy w' row := by
  have hnn := nilneq
  have HF : Hid (Calls Ybad.prog 13 #[v, .string opS, .string q] w fun e w' => e = .returned (.tuple #[.pointer (some ⟨N, 0, none⟩), .nilIface]) ∧ w'.cell? ⟨N, 1, none⟩ = some (.pointer (some ⟨S, 0, none⟩)) ∧ w.grownBy w' row) := h
  clear h
  go_enter Ybad.func8, Ybad.ntmps8
  go_wp2_with fail
  refine HF.out.mono ?_
  rintro e w' ⟨rfl, hN, hgr⟩
  have HG : Hid (w.grownBy w' row) := hgr
  clear hgr HF
  go_wp2
  go_ret2
  exact ⟨rfl, HG.out⟩
end Go.Proofs.YbulkbgykDoor
