/- LawS2896AResolve: what holds of memory while the namespaces are laid; no Go text is walked here. -/
import Derived.Test.YbulkbgykDoorNs
import Derived.Maps.OwnSet
import Derived.Deep.OwnRows
namespace Go.Proofs.YbulkbgykDoor
open Go.ChangeShapes Go.WideShapes Go.ChangeAt Go.RowKit
open Go.ChangeMaps Go.WideElems Go.WideMaps
set_option linter.unusedVariables false

/-- what is asked of the slice of strings -/
def Strs (w : World) (ao : Option Addr) (len : Nat) (ss : List ByteArray) : Prop :=
  len ≤ ss.length ∧ (∀ s ∈ ss, s.size ≤ maxLen) ∧ (len = 0 ∨ ∃ b off, ao = some ⟨b, off, none⟩ ∧ ∀ i, i < len → w.cell? ⟨b, off + i, none⟩ = some (.string (ss.getD i ByteArray.empty)))
/-- what is asked of the slice of bools -/
def Bools (w : World) (ao : Option Addr) (len : Nat) (bs : List Bool) : Prop :=
  len = 0 ∨ ∃ b off, ao = some ⟨b, off, none⟩ ∧ ∀ i, i < len → w.cell? ⟨b, off + i, none⟩ = some (.bool (bs.getD i false))
def closedAt (len : Nat) (bs : List Bool) (i : Nat) : Bool := decide (i < len) && bs.getD i false
theorem Bools.below {w wr : World} {ao : Option Addr} {len : Nat} {bs : List Bool} (h : Bools w ao len bs) (hb : Below w.heap.size w wr) : Bools wr ao len bs := by
  rcases h with h | ⟨b, off, rfl, hc⟩
  · exact .inl h
  · exact .inr ⟨b, off, rfl, fun i hi => (hb.cell (p := ⟨b, off + i, none⟩) (World.block_lt_of_cell? _ _ (hc i hi))).trans (hc i hi)⟩

/-- the last place, among the first k, that holds q -/
def lastIdx (ss : List ByteArray) (q : ByteArray) : Nat → Option Nat
  | 0 => none
  | k + 1 => if ss.getD k ByteArray.empty = q then some k else lastIdx ss q k
theorem lastIdx_lt {ss : List ByteArray} {q : ByteArray} : ∀ {k j : Nat}, lastIdx ss q k = some j → j < k
  | 0, j, h => by simp [lastIdx] at h
  | k + 1, j, h => by
    unfold lastIdx at h
    split at h
    · simp at h; omega
    · have := lastIdx_lt h; omega

def stateOf (len : Nat) (bs : List Bool) (j : Nat) : Int := if closedAt len bs j then 9 else 8

/-- what the map and the scopes hold for q, behind the j-th namespace -/
def Has (w wr : World) (D : DataW Value) (clen : Nat) (bs : List Bool) (q : ByteArray) (j : Nat) : Prop :=
  ∃ N S, D.atKey (.string q.data.toList) nilD = .held (.pointer (some ⟨N, 0, none⟩)) ∧ w.heap.size + 5 < N ∧ w.heap.size + 5 < S ∧
    wr.cell? ⟨N, 1, none⟩ = some (.pointer (some ⟨S, 0, none⟩)) ∧ wr.cell? ⟨S, 1, none⟩ = some (.int .u64 (stateOf clen bs j)) ∧ wr.cell? ⟨w.heap.size + 1 + 1 + 1 + 1 + 1, j, none⟩ = some (.pointer (some ⟨S, 0, none⟩))

structure Inv (w wr : World) (len : Nat) (ss : List ByteArray) (clen : Nat) (bs : List Bool) (q : ByteArray) (k : Nat) : Prop where
  bel : Below w.heap.size w wr
  lt : w.heap.size + 5 < wr.heap.size
  env : wr.heap[w.heap.size + 1]? = some (.cells #[.pointer (some ⟨w.heap.size + 1 + 1 + 1 + 1, 0, none⟩), .int .i32 0, .int .u32 0, .map (some w.heap.size), .map none] 37 (0, 0))
  ext : wr.heap[w.heap.size + 1 + 1]? = some (.cells #[.pointer (some ⟨w.heap.size + 1, 0, none⟩), .map none, .int .i32 0, .int .u32 0] 41 (0, 0))
  tab : wr.heap[w.heap.size + 1 + 1 + 1]? = some (.cells #[.slice none 0 0, .slice none 0 0, .pointer (some ⟨w.heap.size + 1 + 1, 0, none⟩), .string { data := #[] }, .int .u64 0, .int .i64 0, .pointer none, .string { data := #[] }, .int .u64 0, .int .i64 0, .pointer none] 57 (0, 0))
  root : wr.heap[w.heap.size + 1 + 1 + 1 + 1]? = some (.cells #[.pointer none, .int .u64 0, .pointer (some ⟨w.heap.size + 1 + 1 + 1, 0, none⟩), .int .u64 0] 61 (0, 0))
  row : ∀ j, j < len → (wr.cell? ⟨w.heap.size + 1 + 1 + 1 + 1 + 1, j, none⟩).isSome = true ∧ wr.frozen? ⟨w.heap.size + 1 + 1 + 1 + 1 + 1, j, none⟩ = false
  map : ∃ D, wr.ownsMap Ybad.prog 9 R w.heap.size k D ∧
    ((lastIdx ss q k = none ∧ D.atKey (.string q.data.toList) nilD = nilD) ∨ ∃ j, lastIdx ss q k = some j ∧ Has w wr D clen bs q j)

abbrev startWorld (w : World) (len : Nat) : World :=
  (((((w.alloc (.map #[] 0)).alloc (.cells #[.pointer (some ⟨w.heap.size + 1 + 1 + 1 + 1, 0, none⟩), .int .i32 0, .int .u32 0, .map (some w.heap.size), .map none] 37)).alloc
    (.cells #[.pointer (some ⟨w.heap.size + 1, 0, none⟩), .map none, .int .i32 0, .int .u32 0] 41)).alloc
    (.cells #[.slice none 0 0, .slice none 0 0, .pointer (some ⟨w.heap.size + 1 + 1, 0, none⟩), .string { data := #[] }, .int .u64 0, .int .i64 0, .pointer none, .string { data := #[] }, .int .u64 0, .int .i64 0, .pointer none] 57)).alloc
    (.cells #[.pointer none, .int .u64 0, .pointer (some ⟨w.heap.size + 1 + 1 + 1, 0, none⟩), .int .u64 0] 61)).alloc (.cells (madeCells #[.pointer none] len) 27)

theorem heap_alloc_far (w : World) (o : Obj) (n : Nat) (h : n < w.heap.size) : (w.alloc o).heap[n]? = w.heap[n]? := Below.heap_alloc w o n h
theorem heap_alloc_at (w : World) (o : Obj) (n : Nat) (h : n = w.heap.size) : (w.alloc o).heap[n]? = some o := by subst h; exact heap_alloc_new w o

theorem Inv.start (w : World) (len : Nat) (ss : List ByteArray) (clen : Nat) (bs : List Bool) (q : ByteArray) : Inv w (startWorld w len) len ss clen bs q 0 where
  bel := ((((((Below.refl _ _).alloc (Nat.le_refl _) _).alloc (by simp) _).alloc (by simp; omega) _).alloc (by simp; omega) _).alloc (by simp; omega) _).alloc (by simp; omega) _
  lt := by simp
  env := by repeat (first | exact heap_alloc_at _ _ _ (by simp) | rw [heap_alloc_far _ _ _ (by simp)] | rw [heap_alloc_far _ _ _ (by simp; omega)])
  ext := by repeat (first | exact heap_alloc_at _ _ _ (by simp) | rw [heap_alloc_far _ _ _ (by simp)] | rw [heap_alloc_far _ _ _ (by simp; omega)])
  tab := by repeat (first | exact heap_alloc_at _ _ _ (by simp) | rw [heap_alloc_far _ _ _ (by simp)] | rw [heap_alloc_far _ _ _ (by simp; omega)])
  root := by repeat (first | exact heap_alloc_at _ _ _ (by simp) | rw [heap_alloc_far _ _ _ (by simp)] | rw [heap_alloc_far _ _ _ (by simp; omega)])
  row := fun j hj => ⟨by
      rw [World.cell?_alloc_at _ _ _ _ (by simp)]
      simp [madeCells, hj], World.frozen?_alloc_at _ _ _ _ (by simp)⟩
  map := ⟨.map [], ((((((World.ownsMap_made w _ _ _).alloc _).alloc _).alloc _).alloc _).alloc _), .inl ⟨rfl, rfl⟩⟩

abbrev laidWorld (w wr : World) (k : Nat) (st : Int) (s : ByteArray) : World :=
  (((wr.setCell ⟨w.heap.size + 1 + 1 + 1 + 1 + 1, k, none⟩ (.pointer (some ⟨wr.heap.size, 0, none⟩))).alloc (.cells #[.pointer (some ⟨w.heap.size + 1 + 1 + 1 + 1, 0, none⟩), .int .u64 st, .pointer none, .int .u64 0] 61)).alloc
    (.cells #[.string s, .pointer (some ⟨wr.heap.size, 0, none⟩)] 66)).drew

section
variable {w wr : World} {k : Nat} {st : Int} {s : ByteArray}
theorem laid_size : (laidWorld w wr k st s).heap.size = wr.heap.size + 2 := by
  show (World.alloc _ _).heap.size = _
  simp
theorem laid_heap (b : Nat) (hb : b < wr.heap.size) (hne : b ≠ w.heap.size + 1 + 1 + 1 + 1 + 1) : (laidWorld w wr k st s).heap[b]? = wr.heap[b]? := by
  show (World.alloc _ _).heap[b]? = _
  rw [heap_alloc_far _ _ _ (by simp; omega), heap_alloc_far _ _ _ (by simpa using hb), Below.heap_setCell _ _ _ _ hne]
theorem laid_cell (b o : Nat) (hb : b < wr.heap.size) (hne : b ≠ w.heap.size + 1 + 1 + 1 + 1 + 1) : (laidWorld w wr k st s).cell? ⟨b, o, none⟩ = wr.cell? ⟨b, o, none⟩ :=
  World.cell?_of_block (a := ⟨b, o, none⟩) (laid_heap b hb hne)
theorem laid_row_other (j : Nat) (hj : j ≠ k) (hb : w.heap.size + 5 < wr.heap.size) : (laidWorld w wr k st s).cell? ⟨w.heap.size + 1 + 1 + 1 + 1 + 1, j, none⟩ = wr.cell? ⟨w.heap.size + 1 + 1 + 1 + 1 + 1, j, none⟩ := by
  show (World.alloc _ _).cell? _ = _
  rw [World.cell?_alloc_past _ _ _ (by simp; omega), World.cell?_alloc_past _ _ _ (by simp; omega), World.cell?_setCell_other _ _ _ _ (fun e => hj (by simpa using (congrArg Addr.off e).symm))]
theorem laid_row_same (hb : w.heap.size + 5 < wr.heap.size) {v : Value} (hc : wr.cell? ⟨w.heap.size + 1 + 1 + 1 + 1 + 1, k, none⟩ = some v) : (laidWorld w wr k st s).cell? ⟨w.heap.size + 1 + 1 + 1 + 1 + 1, k, none⟩ = some (.pointer (some ⟨wr.heap.size, 0, none⟩)) := by
  show (World.alloc _ _).cell? _ = _
  rw [World.cell?_alloc_past _ _ _ (by simp; omega), World.cell?_alloc_past _ _ _ (by simp; omega)]
  exact World.cell?_setCell_same _ _ _ hc
theorem laid_row_frozen (j : Nat) (hb : w.heap.size + 5 < wr.heap.size) : (laidWorld w wr k st s).frozen? ⟨w.heap.size + 1 + 1 + 1 + 1 + 1, j, none⟩ = wr.frozen? ⟨w.heap.size + 1 + 1 + 1 + 1 + 1, j, none⟩ := by
  show (World.alloc _ _).frozen? _ = _
  rw [World.frozen?_alloc_past _ _ _ (by simp; omega), World.frozen?_alloc_past _ _ _ (by simp; omega)]
  simp
theorem laid_scope : (laidWorld w wr k st s).cell? ⟨wr.heap.size, 1, none⟩ = some (.int .u64 st) := by
  show (World.alloc _ _).cell? _ = _
  rw [World.cell?_alloc_past _ _ _ (by simp), World.cell?_alloc_at _ _ _ _ (by simp)]
  rfl
theorem laid_ns : (laidWorld w wr k st s).cell? ⟨wr.heap.size + 1, 1, none⟩ = some (.pointer (some ⟨wr.heap.size, 0, none⟩)) := by
  show (World.alloc _ _).cell? _ = _
  rw [World.cell?_alloc_at _ _ _ _ (by simp)]
  rfl
theorem laid_below (hb : w.heap.size + 5 < wr.heap.size) (h : Below w.heap.size w wr) : Below w.heap.size w (laidWorld w wr k st s) :=
  (((h.setCell (by simp; omega) _).alloc (by simp; omega) _).alloc (by simp; omega) _).drew
end

theorem bytes_ne {a b : ByteArray} (h : a ≠ b) : (Lit.string b.data.toList) ≠ .string a.data.toList := fun e => h (by
  have h1 : b.data.toList = a.data.toList := by simpa using e
  cases a; cases b
  simp at h1
  rw [h1])

theorem Inv.step {w wr : World} {len : Nat} {ss : List ByteArray} {clen : Nat} {bs : List Bool} {q : ByteArray} {k : Nat} (h : Inv w wr len ss clen bs q k) (hk : k < len) (hlen : len ≤ 1024) (hs : (ss.getD k ByteArray.empty).size ≤ maxLen) :
    ∃ w2, (Instr.mapUpdate 26 (.map (some w.heap.size)) (.string (ss.getD k ByteArray.empty)) (.pointer (some ⟨wr.heap.size + 1, 0, none⟩))).run Ybad.prog (laidWorld w wr k (stateOf clen bs k) (ss.getD k ByteArray.empty)) = .ok () w2 ∧
      Inv w w2 len ss clen bs q (k + 1) := by
  have hlt := h.lt
  obtain ⟨D, hown, hhas⟩ := h.map
  generalize hst : stateOf clen bs k = st
  generalize hsk : ss.getD k ByteArray.empty = s at hs ⊢
  have hown1 : (laidWorld w wr k st s).ownsMap Ybad.prog 9 R w.heap.size k D := ownsMap_of_heap hown (laid_heap _ (by omega) (by omega))
  obtain ⟨w2, hrun, hown2, hgr⟩ := hown1.update keyed Ybad.underlying26 (by unfold maxLen; omega) (keyOf_string_mk Ybad.underlying9 hs) (val := .pointer (some ⟨wr.heap.size + 1, 0, none⟩)) (d := .held (.pointer (some ⟨wr.heap.size + 1, 0, none⟩))) (ps := []) rfl
  refine ⟨w2, hrun, ?_⟩
  have hsz : (laidWorld w wr k st s).heap.size = wr.heap.size + 2 := laid_size
  have far : ∀ b o, b < wr.heap.size + 2 → b ≠ w.heap.size → w2.cell? ⟨b, o, none⟩ = (laidWorld w wr k st s).cell? ⟨b, o, none⟩ := fun b o hb hne => World.cell?_of_block (a := ⟨b, o, none⟩) (hgr.block b (by omega) (by simpa using hne))
  have farz : ∀ b o, b < wr.heap.size + 2 → b ≠ w.heap.size → w2.frozen? ⟨b, o, none⟩ = (laidWorld w wr k st s).frozen? ⟨b, o, none⟩ := fun b o hb hne => World.frozen?_of_block (a := ⟨b, o, none⟩) (hgr.block b (by omega) (by simpa using hne))
  have old : ∀ b, b < wr.heap.size → b ≠ w.heap.size → b ≠ w.heap.size + 1 + 1 + 1 + 1 + 1 → w2.heap[b]? = wr.heap[b]? := fun b hb h1 h2 => (hgr.block b (by omega) (by simpa using h1)).trans (laid_heap b hb h2)
  have oldc : ∀ b o, b < wr.heap.size → b ≠ w.heap.size → b ≠ w.heap.size + 1 + 1 + 1 + 1 + 1 → w2.cell? ⟨b, o, none⟩ = wr.cell? ⟨b, o, none⟩ := fun b o hb h1 h2 => World.cell?_of_block (a := ⟨b, o, none⟩) (old b hb h1 h2)
  obtain ⟨v5, c5⟩ := Option.isSome_iff_exists.1 (h.row k hk).1
  have hsz2 := hgr.size
  exact {
    bel := (laid_below hlt h.bel).grown hgr (by omega) (fun k e => by simp at e; omega)
    lt := by omega
    env := (old _ (by omega) (by omega) (by omega)).trans h.env
    ext := (old _ (by omega) (by omega) (by omega)).trans h.ext
    tab := (old _ (by omega) (by omega) (by omega)).trans h.tab
    root := (old _ (by omega) (by omega) (by omega)).trans h.root
    row := fun j hj => by
      rw [far _ _ (by omega) (by omega), farz _ _ (by omega) (by omega), laid_row_frozen j hlt]
      refine ⟨?_, (h.row j hj).2⟩
      by_cases e : j = k
      · subst e; rw [laid_row_same hlt c5]; rfl
      · rw [laid_row_other j e hlt]; exact (h.row j hj).1
    map := ⟨_, hown2, by
      by_cases e : s = q
      · right
        refine ⟨k, by unfold lastIdx; rw [hsk, if_pos e], wr.heap.size + 1, wr.heap.size, ?_, by omega, by omega, ?_, ?_, ?_⟩
        · subst e
          exact Maps.atKey_put_same hown.isMap (show WideAt.IsKeyLit (.string s.data.toList) from trivial) _ _
        · rw [far _ _ (by omega) (by omega)]; exact laid_ns
        · rw [far _ _ (by omega) (by omega), hst]; exact laid_scope
        · rw [far _ _ (by omega) (by omega)]; exact laid_row_same hlt c5
      · have hl : lastIdx ss q (k + 1) = lastIdx ss q k := by rw [lastIdx, hsk, if_neg e]
        rw [hl]
        rcases hhas with ⟨h1, h2⟩ | ⟨j, h1, N, S, h2, h3, h4, h5, h6, h7⟩
        · left
          exact ⟨h1, by rw [Maps.atKey_put_other (bytes_ne e)]; exact h2⟩
        · right
          have hjk := lastIdx_lt h1
          have n1 := World.block_lt_of_cell? _ _ h5
          have n2 := World.block_lt_of_cell? _ _ h6
          simp only at n1 n2
          refine ⟨j, h1, N, S, by rw [Maps.atKey_put_other (bytes_ne e)]; exact h2, h3, h4, ?_, ?_, ?_⟩
          · rw [oldc N 1 n1 (by omega) (by omega)]; exact h5
          · rw [oldc S 1 n2 (by omega) (by omega)]; exact h6
          · rw [far _ _ (by omega) (by omega), laid_row_other j (by omega) hlt]; exact h7⟩ }

/-! ### behind the loop: the parts that the call of Namespace asks for -/
theorem Inv.alloc {w wr : World} {len : Nat} {ss : List ByteArray} {clen : Nat} {bs : List Bool} {q : ByteArray} {k : Nat} (h : Inv w wr len ss clen bs q k) (o : Obj) : Inv w (wr.alloc o) len ss clen bs q k := by
  have hlt := h.lt
  have old : ∀ b, b < wr.heap.size → (wr.alloc o).heap[b]? = wr.heap[b]? := fun b hb => heap_alloc_far _ _ _ hb
  have oldc : ∀ b o', b < wr.heap.size → (wr.alloc o).cell? ⟨b, o', none⟩ = wr.cell? ⟨b, o', none⟩ := fun b o' hb => World.cell?_of_block (a := ⟨b, o', none⟩) (old b hb)
  have oldf : ∀ b o', b < wr.heap.size → (wr.alloc o).frozen? ⟨b, o', none⟩ = wr.frozen? ⟨b, o', none⟩ := fun b o' hb => World.frozen?_of_block (a := ⟨b, o', none⟩) (old b hb)
  exact {
    bel := h.bel.alloc (by omega) o
    lt := by simp; omega
    env := (old _ (by omega)).trans h.env
    ext := (old _ (by omega)).trans h.ext
    tab := (old _ (by omega)).trans h.tab
    root := (old _ (by omega)).trans h.root
    row := fun j hj => by rw [oldc _ _ (by omega), oldf _ _ (by omega)]; exact h.row j hj
    map := by
      obtain ⟨D, hown, hhas⟩ := h.map
      refine ⟨D, hown.alloc o, ?_⟩
      rcases hhas with hh | ⟨j, h1, N, S, h2, h3, h4, h5, h6, h7⟩
      · exact .inl hh
      · have n1 := World.block_lt_of_cell? _ _ h5
        have n2 := World.block_lt_of_cell? _ _ h6
        simp only at n1 n2
        exact .inr ⟨j, h1, N, S, h2, h3, h4, (oldc N 1 n1).trans h5, (oldc S 1 n2).trans h6, (oldc _ _ (by omega)).trans h7⟩ }

theorem Chain.alloc {w : World} (o : Obj) : ∀ {n s r : Nat}, Chain w n s r → Chain (w.alloc o) n s r
  | 0, _, _, h => h
  | n + 1, s, r, ⟨p, hp, hc, h⟩ => ⟨p, hp, (World.cell?_of_block (a := ⟨s, 0, none⟩) (heap_alloc_far _ _ _ (World.block_lt_of_cell? _ _ hc))).trans hc, Chain.alloc o h⟩

theorem EnvOf.alloc {w : World} {r : Nat} {eo : Option Addr} (h : EnvOf w r eo) (o : Obj) : EnvOf (w.alloc o) r eo := by
  have keep : ∀ {b o' : Nat} {v : Value}, w.cell? ⟨b, o', none⟩ = some v → (w.alloc o).cell? ⟨b, o', none⟩ = some v := fun {b o' v} hc => (World.cell?_of_block (a := ⟨b, o', none⟩) (heap_alloc_far _ _ _ (World.block_lt_of_cell? _ _ hc))).trans hc
  obtain ⟨h0, h1⟩ := h
  refine ⟨keep h0, ?_⟩
  rcases h1 with ⟨e, h2⟩ | ⟨t, x, h2, h3, h4⟩
  · exact .inl ⟨e, keep h2⟩
  · exact .inr ⟨t, x, keep h2, keep h3, keep h4⟩

/-- one scope more -/
theorem Chain.more {w : World} {n s r : Nat} (h : Chain w n s r) (hs : s < w.heap.size) (o : Obj) (hc : (w.alloc o).cell? ⟨w.heap.size, 0, none⟩ = some (.pointer (some ⟨s, 0, none⟩))) : Chain (w.alloc o) (n + 1) w.heap.size r :=
  ⟨s, hs, hc, h.alloc o⟩

section
variable {w wr : World} {len : Nat} {ss : List ByteArray} {clen : Nat} {bs : List Bool} {q : ByteArray} {k : Nat}
theorem Inv.rootState (h : Inv w wr len ss clen bs q k) : wr.cell? ⟨w.heap.size + 1 + 1 + 1 + 1, 1, none⟩ = some (.int .u64 0) := by rw [cell_of_row _ _ _ _ _ _ h.root]; rfl
theorem Inv.envOf (h : Inv w wr len ss clen bs q k) : EnvOf wr (w.heap.size + 1 + 1 + 1 + 1) (some ⟨w.heap.size + 1, 0, none⟩) :=
  ⟨by rw [cell_of_row _ _ _ _ _ _ h.root]; rfl, .inr ⟨w.heap.size + 1 + 1 + 1, w.heap.size + 1 + 1, by rw [cell_of_row _ _ _ _ _ _ h.root]; rfl, by rw [cell_of_row _ _ _ _ _ _ h.tab]; rfl, by rw [cell_of_row _ _ _ _ _ _ h.ext]; rfl⟩⟩
theorem Inv.envd (h : Inv w wr len ss clen bs q k) {D : DataW Value} (hown : wr.ownsMap Ybad.prog 9 R w.heap.size k D) : Envd wr (w.heap.size + 1) w.heap.size k D :=
  ⟨by rw [cell_of_row _ _ _ _ _ _ h.env]; rfl, by simp [World.frozen?, h.env], by rw [cell_of_row _ _ _ _ _ _ h.env]; rfl, hown, by omega⟩
theorem Inv.global (h : Inv w wr len ss clen bs q k) {g : Nat} {v : Value} (hc : w.cell? ⟨g, 0, none⟩ = some v) : wr.cell? ⟨g, 0, none⟩ = some v :=
  (h.bel.cell (p := ⟨g, 0, none⟩) (World.block_lt_of_cell? _ _ hc)).trans hc
end
end Go.Proofs.YbulkbgykDoor
